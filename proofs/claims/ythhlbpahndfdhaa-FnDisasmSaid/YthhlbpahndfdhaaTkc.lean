/- The reference cuts a script into tokens: the loop. -/
import Derived.Test.YthhlbpahndfdhaaTkb
set_option linter.unusedSimpArgs false
set_option linter.unusedVariables false
namespace Go.Proofs.Ythhlbpahndfdhaa.Tk
open Go Go.Se Go.Proofs Go.Proofs.Ythhlbpahndfdhaa.Tytok

structure Lk where
  p : Int
  a : Option Addr
  n : Nat
  c : Nat
  zs : List Value
  rs : List Row

/-- How a script's cutting ends. -/
def Done (xs : List Int) (p : Nat) (bad : Int) : Prop := (bad = -1 ∧ p = xs.length) ∨ (bad = p ∧ p < xs.length ∧ stepT (xs.drop p) = none)

theorem Done.stuck {xs : List Int} {p : Nat} {bad : Int} (h : Done xs p bad) : Stuck xs p := by
  rcases h with ⟨_, h⟩ | ⟨_, _, h⟩
  · exact stuck_end h
  · exact .inr h



set_option maxRecDepth 100000 in
set_option maxHeartbeats 2000000 in
theorem tokens {P : Program} (hP : P = Try.prog) (R : RO) (a : Option Addr) (n c : Nat) (xs : List Int) (h : RI R .u8 a n xs) (hn : n ≤ 100000) (hc : n ≤ c) :
    RetP P 8 [.slice a n c] R fun R' v => ∃ a' n' c' bad l p, v = .tuple #[.slice a' n' c', .int .i64 bad] ∧ Toks xs l p ∧ LAt R' 3 TokAt a' n' c' l ∧ Done xs p bad := by
  subst hP
  have hl := h.len
  refine retP_vc (fz := []) Try.func8 rfl (by decide) rfl ok8 ?_
  intro P bin cmp cnv neg com bnot beq ofN toN at_ sub_ scmp cat sget ssz ssub elem fld_ hP hA
  conv => cbv
  have o := ofN_ hA n
  refine ⟨Lk, fun x => ⟨[(4, .v (.int .i64 x.p)), (2, .v (.slice x.a x.n x.c)), (0, .v (.slice a n c))], R, [], 0, x.rs⟩,
    fun k x => ∃ (p : Nat) (l : List Tok), x.p = p ∧ p ≤ xs.length ∧ k = xs.length - p ∧ Toks xs l p ∧ Base1 x.rs [] x.a x.n x.c 39 3 x.zs ∧ EachN 3 TokAt R x.zs l ∧ x.n = l.length ∧ (x.n ≠ 0 → x.a.isSome = true),
    ⟨xs.length, ⟨0, none, 0, 0, [], []⟩, ⟨⟨rfl, rfl, rfl, trivial⟩, rfl, trivial, rfl, .refl _⟩, 0, [], rfl, by omega, rfl, .nil, Base1.nil, EachN.nil, rfl, fun h => absurd rfl h⟩, ?_⟩
  rintro k ⟨at0, a1, n1, c1, zs, rs⟩ ⟨p, l, hat, hp, hk, ht, hb, he, hn1, hs1⟩
  simp only at hat hb he hn1 hs1
  have htl := ht.le
  conv => cbv
  by_cases hlt : p < xs.length
  case neg =>
    refine br_f (by rw [o, cmp_lss hA]; simp; omega) ?_
    conv => cbv
    intro ρ R'' hle _ hpr
    exact ⟨a1, n1, c1, _, l, p, rfl, ht, Base1.latN hb hpr (by omega) hs1 (he.le fun _ _ h => TokAt.le hle _ _ h) (by unfold maxLen; omega), .inl ⟨rfl, by omega⟩⟩
  refine br_t (by rw [o, cmp_lss hA]; simp; omega) ?_
  conv => cbv
  refine ix_u8 hA h p hat (by omega) ?_
  refine ld_u8 hA h (by omega) (by omega) ?_
  intro op hop op0 op1
  rw [show at0.toNat = p by omega] at hop
  conv => cbv
  have e0 : cnv .i64 op = op := cnv_i64 hA (by omega)
  have ep : bin .add .i64 at0 1 = ((p + 1 : Nat) : Int) := by rw [hat, add_i64 hA (by omega)]; omega
  refine ⟨p + 1, n, by rw [ep]; rfl, rfl, by omega, by omega, ?_⟩
  intro a2 n2 c2 hn2 hc2 ha2
  conv => cbv
  have h2' := h.part' (l := p + 1) (m := n) (by omega) (by omega) hn2 hc ha2
  have hc2n : n2 ≤ c2 := by omega
  obtain ⟨rest, hrest⟩ : ∃ rest, rest = xs.drop (p + 1) := ⟨_, rfl⟩
  have h2 : RI R .u8 a2 n2 rest := by
    rw [hrest]
    rw [List.take_of_length_le (by simp; omega)] at h2'
    exact h2'
  have o2 := ofN_ hA n2
  have hl2 := h2.len
  have hdr : xs.drop p = op :: rest := by rw [drop_get hlt, hop, hrest]
  have hrl : rest.length = xs.length - (p + 1) := by rw [hrest]; simp
  clear h2' hrest
  by_cases hd : 1 ≤ op ∧ op ≤ 75
  · obtain ⟨q1, q2⟩ := hd
    have d1 : cmp .geq (cnv .i64 op) 1 = true := by rw [e0, cmp_geq hA]; simp; omega
    have d2 : cmp .lss (cnv .i64 op) 76 = true := by rw [e0, cmp_lss hA]; simp; omega
    simp only [d1]
    conv => cbv
    simp only [d2]
    conv => cbv
    have cb : bnot true = false := by rw [bnot_ hA]; rfl
    simp only [cb]
    conv => cbv
    have hst : stepT (op :: rest) = if rest.length < 0 + op.toNat then none else some ((rest.drop 0).take op.toNat, 1 + 0 + op.toNat) := by
      simp only [stepT, if_pos (And.intro q1 q2), Nat.zero_add, List.drop_zero, Nat.add_zero]
    have hKi : cnv .i64 op = (op.toNat : Int) := by omega
    have hWi : (0 : Int) = ((0 : Nat) : Int) := rfl
    have e1 : bin .sub .i64 (ofN n2) 0 = (rest.length : Int) - 0 := by
      rw [o2]
      have f0 : bin .sub .i64 (n2 : Int) 0 = (n2 : Int) - 0 := sub_i64 hA (by omega)
      omega
    by_cases hsh : rest.length < 0 + op.toNat
    · have d1 : cmp .gtr (cnv .i64 op) (bin .sub .i64 (ofN n2) 0) = true := by rw [e1, cmp_gtr hA]; simp <;> omega
      simp only [d1]
      have hnone : stepT (xs.drop p) = none := by rw [hdr, hst, if_pos hsh]
      conv => cbv
      intro ρ R'' hle _ hpr
      exact ⟨a1, n1, c1, _, l, p, rfl, ht, Base1.latN hb hpr (by omega) hs1 (he.le fun _ _ h => TokAt.le hle _ _ h) (by unfold maxLen; omega), .inr ⟨hat, hlt, hnone⟩⟩
    have d1 : cmp .gtr (cnv .i64 op) (bin .sub .i64 (ofN n2) 0) = false := by rw [e1, cmp_gtr hA]; simp <;> omega
    simp only [d1]
    conv => cbv
    have e2 : bin .add .i64 0 (cnv .i64 op) = ((0 + op.toNat : Nat) : Int) := by
      have f0 : bin .add .i64 0 (cnv .i64 op) = 0 + (cnv .i64 op) := add_i64 hA (by omega)
      omega
    refine ⟨0, 0 + op.toNat, by first | rfl | (rw [hWi]; rfl), by rw [e2]; rfl, by omega, by omega, ?_⟩
    intro a3 n3 c3 hn3 hc3 ha3
    conv => cbv
    have h3 := h2.part' (l := 0) (m := 0 + op.toNat) (by omega) (by omega) hn3 hc2n ha3
    refine ⟨n1, zs, _, _, _, 1, [.int .i64 (cnv .i64 op), .slice a3 n3 c3, .int .i64 at0], hb.base, .refl _, .own 0 0 1 1 _ _ rfl rfl rfl (by simp [Value.oneCell']), by omega, by omega, ?_⟩
    intro a4 n4 c4 z4 hn4 hz4 hs4
    conv => cbv
    have hsome : stepT (xs.drop p) = some ((rest.drop 0).take op.toNat, 1 + 0 + op.toNat) := by rw [hdr, hst, if_neg hsh]
    have hto := ht.snoc (op := op) (by rw [List.getElem?_eq_getElem hlt, hop, List.getD_eq_getElem?_getD, List.getElem?_eq_getElem hlt]; rfl) hsome
    have e3 : bin .add .i64 at0 (bin .add .i64 (bin .add .i64 1 0) (cnv .i64 op)) = ((p + (1 + 0 + op.toNat) : Nat) : Int) := by
      have f1 : bin .add .i64 1 0 = 1 + 0 := add_i64 hA (by omega)
      have f2 : bin .add .i64 (bin .add .i64 1 0) (cnv .i64 op) = 1 + 0 + (cnv .i64 op) := by rw [f1, add_i64 hA (by omega)]
      rw [f2, hat, add_i64 hA (by omega)]
      omega
    refine ⟨xs.length - (p + (1 + 0 + op.toNat)), ⟨_, a4, n4, c4, z4, _⟩, by omega, ⟨⟨rfl, rfl, rfl, trivial⟩, rfl, trivial, rfl, .refl _⟩, p + (1 + 0 + op.toNat), _, e3, by omega, rfl, hto, Base1.row, ?_, ?_, hs4⟩
    · show EachN 3 TokAt R z4 _
      rw [hz4]
      exact he.app rfl ⟨a3, n3, c3, by rw [e0, hat], by rw [show (0 + op.toNat - 0) = op.toNat from by omega] at h3; exact h3, by unfold maxLen; omega⟩
    · show n4 = _
      rw [hn4, hn1]
      simp
  by_cases hw : 76 ≤ op ∧ op ≤ 78
  · obtain ⟨q1, q2⟩ := hw
    have d1 : cmp .geq (cnv .i64 op) 1 = true := by rw [e0, cmp_geq hA]; simp; omega
    have d2 : cmp .lss (cnv .i64 op) 76 = false := by rw [e0, cmp_lss hA]; simp; omega
    have d3 : cmp .geq (cnv .i64 op) 76 = true := by rw [e0, cmp_geq hA]; simp; omega
    have d4 : cmp .leq (cnv .i64 op) 78 = true := by rw [e0, cmp_leq hA]; simp; omega
    simp only [d1]
    conv => cbv
    simp only [d2]
    conv => cbv
    simp only [d3]
    conv => cbv
    simp only [d4]
    conv => cbv
    have s1 : bin .sub .i64 (cnv .i64 op) 76 = op - 76 := by rw [e0, sub_i64 hA (by omega)]
    refine ⟨by rw [s1]; omega, ?_⟩
    have hWi : bin .shl .i64 1 (bin .sub .i64 (cnv .i64 op) 76) = ((width op : Nat) : Int) := by
      rw [s1]
      unfold width
      by_cases x1 : op = 76
      · rw [x1, shl_i64 hA (by decide) (by decide)]; rfl
      by_cases x2 : op = 77
      · rw [x2, shl_i64 hA (by decide) (by decide)]; rfl
      have x3 : op = 78 := by omega
      rw [x3, shl_i64 hA (by decide) (by decide)]; rfl
    have hw4 : width op ≤ 4 := by unfold width; repeat' split <;> try omega
    generalize bin .shl .i64 1 (bin .sub .i64 (cnv .i64 op) 76) = WI at hWi ⊢
    refine (word hP R a2 n2 c2 rest h2 (by omega) WI (width op) hWi hw4).callQ rfl ?_
    rintro _ ⟨r, b, rfl, ⟨hlw, hr, rfl⟩ | ⟨hlw, rfl, hr⟩⟩
    · conv => cbv
      have cb : bnot false = true := by rw [bnot_ hA]; rfl
      simp only [cb]
      have hnone : stepT (xs.drop p) = none := by
        rw [hdr, stepT, if_neg hd, if_pos ⟨q1, q2⟩, if_pos (by omega)]
      conv => cbv
      intro ρ R'' hle _ hpr
      exact ⟨a1, n1, c1, _, l, p, rfl, ht, Base1.latN hb hpr (by omega) hs1 (he.le fun _ _ h => TokAt.le hle _ _ h) (by unfold maxLen; omega), .inr ⟨hat, hlt, hnone⟩⟩
    · conv => cbv
      have cb : bnot true = false := by rw [bnot_ hA]; rfl
      simp only [cb]
      conv => cbv
      obtain ⟨K, hK⟩ : ∃ K, K = (wordN (rest.take (width op))).toNat := ⟨_, rfl⟩
      have hwr := wordN_u32 (l := rest.take (width op)) (fun x hx => h2.wf x (List.mem_of_mem_take hx)) (by simp; omega)
      have hKi : r = (K : Int) := by rw [hr, hK]; omega
      have hst : stepT (op :: rest) = if rest.length < width op + K then none else some ((rest.drop (width op)).take K, 1 + width op + K) := by
        rw [stepT, if_neg hd, if_pos ⟨q1, q2⟩, if_neg (by omega), ← hK]
        by_cases hx : rest.length < width op + K
        · rw [if_pos hx, if_pos (by omega)]
        · rw [if_neg hx, if_neg (by omega)]
      clear hK hwr
      generalize width op = W at hWi hw4 hlw hst
      have e1 : bin .sub .i64 (ofN n2) WI = (rest.length : Int) - W := by
        rw [o2]
        have f0 : bin .sub .i64 (n2 : Int) WI = (n2 : Int) - WI := sub_i64 hA (by omega)
        omega
      by_cases hsh : rest.length < W + K
      · have d1 : cmp .gtr r (bin .sub .i64 (ofN n2) WI) = true := by rw [e1, cmp_gtr hA]; simp <;> omega
        simp only [d1]
        have hnone : stepT (xs.drop p) = none := by rw [hdr, hst, if_pos hsh]
        conv => cbv
        intro ρ R'' hle _ hpr
        exact ⟨a1, n1, c1, _, l, p, rfl, ht, Base1.latN hb hpr (by omega) hs1 (he.le fun _ _ h => TokAt.le hle _ _ h) (by unfold maxLen; omega), .inr ⟨hat, hlt, hnone⟩⟩
      have d1 : cmp .gtr r (bin .sub .i64 (ofN n2) WI) = false := by rw [e1, cmp_gtr hA]; simp <;> omega
      simp only [d1]
      conv => cbv
      have e2 : bin .add .i64 WI r = ((W + K : Nat) : Int) := by
        have f0 : bin .add .i64 WI r = WI + r := add_i64 hA (by omega)
        omega
      refine ⟨W, W + K, by first | rfl | (rw [hWi]; rfl), by rw [e2]; rfl, by omega, by omega, ?_⟩
      intro a3 n3 c3 hn3 hc3 ha3
      conv => cbv
      have h3 := h2.part' (l := W) (m := W + K) (by omega) (by omega) hn3 hc2n ha3
      refine ⟨n1, zs, _, _, _, 1, [.int .i64 (cnv .i64 op), .slice a3 n3 c3, .int .i64 at0], hb.base, .refl _, .own 0 0 1 1 _ _ rfl rfl rfl (by simp [Value.oneCell']), by omega, by omega, ?_⟩
      intro a4 n4 c4 z4 hn4 hz4 hs4
      conv => cbv
      have hsome : stepT (xs.drop p) = some ((rest.drop W).take K, 1 + W + K) := by rw [hdr, hst, if_neg hsh]
      have hto := ht.snoc (op := op) (by rw [List.getElem?_eq_getElem hlt, hop, List.getD_eq_getElem?_getD, List.getElem?_eq_getElem hlt]; rfl) hsome
      have e3 : bin .add .i64 at0 (bin .add .i64 (bin .add .i64 1 WI) r) = ((p + (1 + W + K) : Nat) : Int) := by
        have f1 : bin .add .i64 1 WI = 1 + WI := add_i64 hA (by omega)
        have f2 : bin .add .i64 (bin .add .i64 1 WI) r = 1 + WI + r := by rw [f1, add_i64 hA (by omega)]
        rw [f2, hat, add_i64 hA (by omega)]
        omega
      refine ⟨xs.length - (p + (1 + W + K)), ⟨_, a4, n4, c4, z4, _⟩, by omega, ⟨⟨rfl, rfl, rfl, trivial⟩, rfl, trivial, rfl, .refl _⟩, p + (1 + W + K), _, e3, by omega, rfl, hto, Base1.row, ?_, ?_, hs4⟩
      · show EachN 3 TokAt R z4 _
        rw [hz4]
        exact he.app rfl ⟨a3, n3, c3, by rw [e0, hat], by rw [show (W + K - W) = K from by omega] at h3; exact h3, by unfold maxLen; omega⟩
      · show n4 = _
        rw [hn4, hn1]
        simp
  have hst : stepT (op :: rest) = if rest.length < 0 + 0 then none else some ((rest.drop 0).take 0, 1 + 0 + 0) := by
    rw [stepT, if_neg hd, if_neg hw, if_neg (by omega)]
    rfl
  have hKi : (0 : Int) = ((0 : Nat) : Int) := rfl
  have hWi : (0 : Int) = ((0 : Nat) : Int) := rfl
  have cb : bnot true = false := by rw [bnot_ hA]; rfl
  by_cases z1 : 1 ≤ op
  · have d1 : cmp .geq (cnv .i64 op) 1 = true := by rw [e0, cmp_geq hA]; simp; omega
    have d2 : cmp .lss (cnv .i64 op) 76 = false := by rw [e0, cmp_lss hA]; simp; omega
    have d3 : cmp .geq (cnv .i64 op) 76 = true := by rw [e0, cmp_geq hA]; simp; omega
    have d4 : cmp .leq (cnv .i64 op) 78 = false := by rw [e0, cmp_leq hA]; simp; omega
    simp only [d1]
    conv => cbv
    simp only [d2]
    conv => cbv
    simp only [d3]
    conv => cbv
    simp only [d4]
    conv => cbv
    simp only [cb]
    conv => cbv
    have e1 : bin .sub .i64 (ofN n2) 0 = (rest.length : Int) - 0 := by
      rw [o2]
      have f0 : bin .sub .i64 (n2 : Int) 0 = (n2 : Int) - 0 := sub_i64 hA (by omega)
      omega
    by_cases hsh : rest.length < 0 + 0
    · have d1 : cmp .gtr 0 (bin .sub .i64 (ofN n2) 0) = true := by rw [e1, cmp_gtr hA]; simp <;> omega
      simp only [d1]
      have hnone : stepT (xs.drop p) = none := by rw [hdr, hst, if_pos hsh]
      conv => cbv
      intro ρ R'' hle _ hpr
      exact ⟨a1, n1, c1, _, l, p, rfl, ht, Base1.latN hb hpr (by omega) hs1 (he.le fun _ _ h => TokAt.le hle _ _ h) (by unfold maxLen; omega), .inr ⟨hat, hlt, hnone⟩⟩
    have d1 : cmp .gtr 0 (bin .sub .i64 (ofN n2) 0) = false := by rw [e1, cmp_gtr hA]; simp <;> omega
    simp only [d1]
    conv => cbv
    have e2 : bin .add .i64 0 0 = ((0 + 0 : Nat) : Int) := by
      have f0 : bin .add .i64 0 0 = 0 + 0 := add_i64 hA (by omega)
      omega
    refine ⟨0, 0 + 0, by first | rfl | (rw [hWi]; rfl), by rw [e2]; rfl, by omega, by omega, ?_⟩
    intro a3 n3 c3 hn3 hc3 ha3
    conv => cbv
    have h3 := h2.part' (l := 0) (m := 0 + 0) (by omega) (by omega) hn3 hc2n ha3
    refine ⟨n1, zs, _, _, _, 1, [.int .i64 (cnv .i64 op), .slice a3 n3 c3, .int .i64 at0], hb.base, .refl _, .own 0 0 1 1 _ _ rfl rfl rfl (by simp [Value.oneCell']), by omega, by omega, ?_⟩
    intro a4 n4 c4 z4 hn4 hz4 hs4
    conv => cbv
    have hsome : stepT (xs.drop p) = some ((rest.drop 0).take 0, 1 + 0 + 0) := by rw [hdr, hst, if_neg hsh]
    have hto := ht.snoc (op := op) (by rw [List.getElem?_eq_getElem hlt, hop, List.getD_eq_getElem?_getD, List.getElem?_eq_getElem hlt]; rfl) hsome
    have e3 : bin .add .i64 at0 (bin .add .i64 (bin .add .i64 1 0) 0) = ((p + (1 + 0 + 0) : Nat) : Int) := by
      have f1 : bin .add .i64 1 0 = 1 + 0 := add_i64 hA (by omega)
      have f2 : bin .add .i64 (bin .add .i64 1 0) 0 = 1 + 0 + 0 := by rw [f1, add_i64 hA (by omega)]
      rw [f2, hat, add_i64 hA (by omega)]
      omega
    refine ⟨xs.length - (p + (1 + 0 + 0)), ⟨_, a4, n4, c4, z4, _⟩, by omega, ⟨⟨rfl, rfl, rfl, trivial⟩, rfl, trivial, rfl, .refl _⟩, p + (1 + 0 + 0), _, e3, by omega, rfl, hto, Base1.row, ?_, ?_, hs4⟩
    · show EachN 3 TokAt R z4 _
      rw [hz4]
      exact he.app rfl ⟨a3, n3, c3, by rw [e0, hat], by rw [show (0 + 0 - 0) = 0 from by omega] at h3; exact h3, by unfold maxLen; omega⟩
    · show n4 = _
      rw [hn4, hn1]
      simp
  · have d1 : cmp .geq (cnv .i64 op) 1 = false := by rw [e0, cmp_geq hA]; simp; omega
    have d3 : cmp .geq (cnv .i64 op) 76 = false := by rw [e0, cmp_geq hA]; simp; omega
    simp only [d1]
    conv => cbv
    simp only [d3]
    conv => cbv
    simp only [cb]
    conv => cbv
    have e1 : bin .sub .i64 (ofN n2) 0 = (rest.length : Int) - 0 := by
      rw [o2]
      have f0 : bin .sub .i64 (n2 : Int) 0 = (n2 : Int) - 0 := sub_i64 hA (by omega)
      omega
    by_cases hsh : rest.length < 0 + 0
    · have d1 : cmp .gtr 0 (bin .sub .i64 (ofN n2) 0) = true := by rw [e1, cmp_gtr hA]; simp <;> omega
      simp only [d1]
      have hnone : stepT (xs.drop p) = none := by rw [hdr, hst, if_pos hsh]
      conv => cbv
      intro ρ R'' hle _ hpr
      exact ⟨a1, n1, c1, _, l, p, rfl, ht, Base1.latN hb hpr (by omega) hs1 (he.le fun _ _ h => TokAt.le hle _ _ h) (by unfold maxLen; omega), .inr ⟨hat, hlt, hnone⟩⟩
    have d1 : cmp .gtr 0 (bin .sub .i64 (ofN n2) 0) = false := by rw [e1, cmp_gtr hA]; simp <;> omega
    simp only [d1]
    conv => cbv
    have e2 : bin .add .i64 0 0 = ((0 + 0 : Nat) : Int) := by
      have f0 : bin .add .i64 0 0 = 0 + 0 := add_i64 hA (by omega)
      omega
    refine ⟨0, 0 + 0, by first | rfl | (rw [hWi]; rfl), by rw [e2]; rfl, by omega, by omega, ?_⟩
    intro a3 n3 c3 hn3 hc3 ha3
    conv => cbv
    have h3 := h2.part' (l := 0) (m := 0 + 0) (by omega) (by omega) hn3 hc2n ha3
    refine ⟨n1, zs, _, _, _, 1, [.int .i64 (cnv .i64 op), .slice a3 n3 c3, .int .i64 at0], hb.base, .refl _, .own 0 0 1 1 _ _ rfl rfl rfl (by simp [Value.oneCell']), by omega, by omega, ?_⟩
    intro a4 n4 c4 z4 hn4 hz4 hs4
    conv => cbv
    have hsome : stepT (xs.drop p) = some ((rest.drop 0).take 0, 1 + 0 + 0) := by rw [hdr, hst, if_neg hsh]
    have hto := ht.snoc (op := op) (by rw [List.getElem?_eq_getElem hlt, hop, List.getD_eq_getElem?_getD, List.getElem?_eq_getElem hlt]; rfl) hsome
    have e3 : bin .add .i64 at0 (bin .add .i64 (bin .add .i64 1 0) 0) = ((p + (1 + 0 + 0) : Nat) : Int) := by
      have f1 : bin .add .i64 1 0 = 1 + 0 := add_i64 hA (by omega)
      have f2 : bin .add .i64 (bin .add .i64 1 0) 0 = 1 + 0 + 0 := by rw [f1, add_i64 hA (by omega)]
      rw [f2, hat, add_i64 hA (by omega)]
      omega
    refine ⟨xs.length - (p + (1 + 0 + 0)), ⟨_, a4, n4, c4, z4, _⟩, by omega, ⟨⟨rfl, rfl, rfl, trivial⟩, rfl, trivial, rfl, .refl _⟩, p + (1 + 0 + 0), _, e3, by omega, rfl, hto, Base1.row, ?_, ?_, hs4⟩
    · show EachN 3 TokAt R z4 _
      rw [hz4]
      exact he.app rfl ⟨a3, n3, c3, by rw [e0, hat], by rw [show (0 + 0 - 0) = 0 from by omega] at h3; exact h3, by unfold maxLen; omega⟩
    · show n4 = _
      rw [hn4, hn1]
      simp
end Go.Proofs.Ythhlbpahndfdhaa.Tk
