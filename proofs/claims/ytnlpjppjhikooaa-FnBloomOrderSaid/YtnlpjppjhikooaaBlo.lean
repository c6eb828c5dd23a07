/- Bytes in whichever order: the law. -/
import Derived.Test.YtnlpjppjhikooaaBln
import Derived.ChangeSlices
set_option linter.unusedSimpArgs false
set_option linter.unusedVariables false
namespace Go.Proofs.Ytnlpjppjhikooaa.Bl
open Go Go.Se Go.Proofs Go.ChangeShapes Go.Proofs.Ytnlpjppjhikooaa.Tybl


set_option maxRecDepth 100000 in
theorem sameL {P : Program} (hP : P = Try.prog) (R : RO) (a b : Option Addr) (n m cap c2 : Nat) (xs ys : List Int) (h : RI R .u8 a n xs) (h2 : RI R .u8 b m ys) (hn : n ≤ 1000000000000) (hm : m ≤ 1000000000000) :
    RetP P 21 [.slice a n cap, .slice b m c2] R fun _ v => ∃ r, v = .bool r ∧ (r = true ↔ xs = ys) := by
  subst hP
  have hl := h.len
  have hl2 := h2.len
  refine retP_vc (fz := []) Try.func21 rfl (by decide) rfl ok21 ?_
  intro P bin cmp cnv neg com bnot beq ofN toN at_ sub_ scmp cat sget ssz ssub elem fld_ hP hA
  conv => cbv
  have o := ofN_ hA n
  have o2 := ofN_ hA m
  by_cases h0 : n = m
  case neg =>
    refine br_t (by rw [o, o2, cmp_neq hA]; simp; omega) ?_
    conv => cbv
    intro ρ R'' _ _ _
    exact ⟨_, rfl, by simp; intro hx; rw [hx] at hl; omega⟩
  refine br_f (by rw [o, o2, cmp_neq hA]; simp; omega) ?_
  conv => cbv
  refine ⟨Int, fun x => ⟨[(5, .v (.int .i64 x)), (0, .v (.slice a n cap)), (1, .v (.slice b m c2))], R, [], 0, []⟩,
    fun k x => ∃ i : Nat, x = i ∧ i ≤ n ∧ k = n - i ∧ xs.take i = ys.take i, ⟨n, 0, ⟨⟨rfl, rfl, rfl, trivial⟩, rfl, trivial, rfl, .refl _⟩, 0, rfl, by omega, rfl, rfl⟩, ?_⟩
  rintro k x ⟨i, hx, hi, hk, ht⟩
  conv => cbv
  by_cases hlt : i < n
  · refine br_t (by rw [o, cmp_lss hA]; simp; omega) ?_
    conv => cbv
    refine ⟨[0, 1, 2, 3, 4, 5, 6, 7, 8], [], mix hP, by kernel_rfl, ?_⟩
    conv => cbv
    refine ix_u8 hA h i hx (by omega) ?_
    refine ld_u8 hA h (by omega) (by omega) ?_
    intro c hc c0 c1
    conv => cbv
    refine ix_u8 hA h2 i hx (by omega) ?_
    refine ld_u8 hA h2 (by omega) (by omega) ?_
    intro d hd d0 d1
    conv => cbv
    have hi1 : i < xs.length := by omega
    have hi2 : i < ys.length := by omega
    rw [hx, Int.toNat_natCast, List.getD_eq_getElem?_getD, List.getElem?_eq_getElem hi1] at hc
    rw [hx, Int.toNat_natCast, List.getD_eq_getElem?_getD, List.getElem?_eq_getElem hi2] at hd
    simp only [Option.getD_some] at hc hd
    by_cases he : c = d
    · refine br_f (by rw [cmp_neq hA, he]; simp) ?_
      conv => cbv
      refine ⟨n - (i + 1), x + 1, by omega, ⟨⟨?_, rfl, rfl, trivial⟩, rfl, trivial, rfl, .refl _⟩, i + 1, by show x + 1 = ((i + 1 : Nat) : Int); omega, by omega, rfl, ?_⟩
      · rw [add_i64 hA (by omega)]; rfl
      · rw [List.take_add_one, List.take_add_one, ht, List.getElem?_eq_getElem hi1, List.getElem?_eq_getElem hi2, ← hc, ← hd, he]
    · refine br_t (by rw [cmp_neq hA]; simpa using he) ?_
      conv => cbv
      intro ρ R'' _ _ _
      refine ⟨_, rfl, by simp; intro hxy; subst hxy; exact he (by rw [hc, hd])⟩
  · refine br_f (by rw [o, cmp_lss hA]; simp; omega) ?_
    conv => cbv
    intro ρ R'' _ _ _
    refine ⟨_, rfl, ?_⟩
    have : i = n := by omega
    subst this
    rw [List.take_of_length_le (by omega), List.take_of_length_le (by omega)] at ht
    simp [ht]

structure GBloom where
  xs : List Int
  F : Int
  tw : Int

def BlAt (R : RO) (cs : List Value) (g : GBloom) : Prop := ∃ a n c, cs = [.slice a n c, .int .u32 g.F, .int .u32 g.tw] ∧ RI R .u8 a n g.xs ∧ n ≤ maxLen ∧ n ≤ c ∧ (Lit.int .u32 g.F).wf = true ∧ (Lit.int .u32 g.tw).wf = true

theorem wf_u32 {x : Int} (h : (Lit.int .u32 x).wf = true) : 0 ≤ x ∧ x ≤ 4294967295 := by
  simp [Lit.wf, IntKind.min, IntKind.max, IntKind.bits, IntKind.signed] at h
  omega

section
variable {H : Type} {enc : TypeId × Value → H} {w : World} {base : Nat} {sp : Nat → Bool} {held : Bool} {fuel : Nat} {cs : List Value} {x : DataW H × List MemPlace}

theorem bytes_of (h : DataW.trod enc Try.prog w base sp held fuel 22 cs = some x) : ∃ xs a n c, cs = [.slice a n c] ∧ RI (fun b => w.heap[b]?) .u8 a n xs ∧ n ≤ maxLen ∧ n ≤ c := by
  rcases open_ints Try.underlying22 Try.underlying5 (by kernel_rfl) h with ⟨hcs, _⟩ | ⟨a, l, c, zs, hcs, _, hl, hm, hz, _, hcell, hwz⟩
  · exact ⟨[], none, 0, 0, hcs, RI.nil, Nat.zero_le _, Nat.zero_le _⟩
  · refine ⟨zs.take l, some a, l, c, hcs, RI.of_cells hcell hwz ?_, Nat.le_trans hl hm, hl⟩
    rw [hz]; split <;> omega

theorem int_of {k : IntKind} {t : Nat} (ht : Program.underlying Try.prog t = some (.int k)) (h : DataW.trod enc Try.prog w base sp held fuel t cs = some x) : ∃ n, cs = [.int k n] ∧ (Lit.int k n).wf = true := by
  obtain ⟨n, h1, _, h2⟩ := DataW.trod_int ht h
  exact ⟨n, h1, h2⟩

theorem cut {α : Type} (l : List α) (o n : Nat) : l.drop o = (l.drop o).take n ++ l.drop (o + n) := by rw [← List.drop_drop, List.take_append_drop]

theorem bloom_of (h : DataW.trod enc Try.prog w base sp held fuel 25 cs = some x) : ∃ g, BlAt (fun b => w.heap[b]?) cs g := by
  obtain ⟨h1, m, h2⟩ := struct_of ty25 rfl h
  obtain ⟨z1, e1⟩ := h2 (0, 22) (by simp)
  obtain ⟨z2, e2⟩ := h2 (1, 23) (by simp)
  obtain ⟨z3, e3⟩ := h2 (2, 23) (by simp)
  rw [cellsOf_of ty22] at e1
  rw [cellsOf_of ty23] at e2 e3
  obtain ⟨xs, a, n, c, c1, c2, c3, c4⟩ := bytes_of e1
  obtain ⟨F, c5, c6⟩ := int_of Try.underlying23 e2
  obtain ⟨tw, c7, c8⟩ := int_of Try.underlying23 e3
  refine ⟨⟨xs, F, tw⟩, a, n, c, ?_, c2, c3, c4, c6, c8⟩
  have h3 : cs = cs.drop 0 := by simp
  have h1 : cs.length = 3 := h1
  rw [h3, cut cs 0 1, cut cs 1 1, cut cs 2 1, List.drop_of_length_le (by omega : cs.length ≤ 2 + 1), List.append_nil]
  have d1 : (cs.drop 0).take 1 = _ := c1
  have d2 : (cs.drop 1).take 1 = _ := c5
  have d3 : (cs.drop 2).take 1 = _ := c7
  rw [d1, d2, d3]
  rfl
end


set_option maxRecDepth 100000 in
theorem awake {P : Program} (hP : P = Try.prog) (R : RO) : RetP P 7 [] R fun _ v => v = .bool true := by
  subst hP
  refine retP_vc (fz := [2, 4]) Try.func7 rfl (by decide) rfl ok7 ?_
  intro P bin cmp cnv neg com bnot beq ofN toN at_ sub_ scmp cat sget ssz ssub elem fld_ hP hA
  conv => cbv
  refine ⟨ints .u8 [0], rfl, fun R1 b1 hR1 hb1 => ?_⟩
  conv => cbv
  have g1 := RI.blk hb1 (by intro x hx; simp at hx; subst hx; decide)
  refine ⟨ints .u8 [1], rfl, fun R2 b2 hR2 hb2 => ?_⟩
  conv => cbv
  have g2 := RI.blk hb2 (by intro x hx; simp at hx; subst hx; decide)
  refine (bloomAdd hP R2 (some ⟨b1, 0, none⟩) 1 1 [0] (g1.le hR2) (by decide) (by decide) 1 1 rfl (by decide) 0 (by decide) (by decide) (some ⟨b2, 0, none⟩) 1 1 [1] g2 (by decide) (by decide)).callP rfl ?_
  rintro R3 _ hR3 ⟨a2, c2, rfl, g3⟩
  conv => cbv
  have o := ofN_ hA 1
  have q1 : cmp .eql (ofN 1) 1 = true := by rw [o, cmp_eql hA]; rfl
  simp only [q1]
  conv => cbv
  refine ix_u8 hA g3 0 rfl (by decide) ?_
  refine ld_u8 hA g3 (by decide) (by decide) ?_
  intro v hv v0 v1
  conv => cbv
  intro ρ R'' _ _ _
  show Value.bool (cmp .neq v 0) = _
  have : v ≠ 0 := by
    have hlt := bp_lt (n := 1) (by decide) 0 [1] 0
    have e : sbs [0] (bps 1 0 [1] 1) = sb [0] (bp 1 0 [1] 0) := rfl
    rw [e] at hv
    generalize bp 1 0 [1] 0 = p at hv hlt
    have hp : p / 8 = 0 := by omega
    have : v = ((2 ^ (p % 8) : Nat) : Int) := by
      rw [hv, show (0 : Int).toNat = 0 from rfl, sb_get, if_pos ⟨hp.symm, by decide⟩]
      simp
    rw [this]
    have := Nat.pow_pos (n := p % 8) (show 0 < 2 by decide)
    omega
  rw [cmp_neq hA]
  simpa using this




set_option maxRecDepth 100000 in
set_option maxHeartbeats 1000000 in
theorem lawBloom (R : RO) (cs : List Value) (gb : GBloom) (hg : BlAt R cs gb) (a : Option Addr) (n c : Nat) (xs : List Int) (h : RI R .u8 a n xs) (hmx : n ≤ 9223372036854775807) (hc : n ≤ c) (b : Option Addr) (m d : Nat) (ys : List Int) (h2 : RI R .u8 b m ys) (hmx2 : m ≤ 9223372036854775807) (hd : m ≤ d) :
    RetP Try.prog 3 [.agg cs.toArray, .slice a n c, .slice b m d] R fun _ v => v = .bool true := by
  obtain ⟨a0, n0, c0, rfl, h0, hm0, hc0, hF, hT⟩ := hg
  obtain ⟨ps, F, tw⟩ := gb
  simp only at h0 hF hT
  have hF := wf_u32 hF
  have hT := wf_u32 hT
  have l0 := h0.len
  unfold maxLen at hm0
  refine retP_vc (fz := []) Try.func3 rfl (by decide) rfl ok3 ?_
  intro P bin cmp cnv neg com bnot beq ofN toN at_ sub_ scmp cat sget ssz ssub elem fld_ hP hA
  conv => cbv
  have o := ofN_ hA n
  have o2 := ofN_ hA m
  have o0 := ofN_ hA n0
  have nt : bnot true = false := by rw [bnot_ hA]; rfl
  have nf : bnot false = true := by rw [bnot_ hA]; rfl
  refine callP_in (fz := []) hP hA Try.func6 rfl (by decide) rfl ok6 (by simp [labL, lab]) ?_
  conv => cbv
  by_cases z1 : n0 > 2147483647
  · refine br_t (by rw [o0, cmp_gtr hA]; simp; omega) ?_
    conv => cbv
    simp only [nf]
    conv => cbv
    intro ρ R'' _ _ _
    rfl
  refine br_f (by rw [o0, cmp_gtr hA]; simp; omega) ?_
  conv => cbv
  simp only [nt]
  conv => cbv
  by_cases z2 : n > 2147483647
  · have q1 : cmp .gtr (ofN n) 2147483647 = true := by rw [o, cmp_gtr hA]; simp; omega
    simp only [q1]
    conv => cbv
    intro ρ R'' _ _ _
    rfl
  have q1 : cmp .gtr (ofN n) 2147483647 = false := by rw [o, cmp_gtr hA]; simp; omega
  simp only [q1]
  conv => cbv
  by_cases z3 : m > 2147483647
  · refine br_t (by rw [o2, cmp_gtr hA]; simp; omega) ?_
    conv => cbv
    intro ρ R'' _ _ _
    rfl
  refine br_f (by rw [o2, cmp_gtr hA]; simp; omega) ?_
  conv => cbv
  refine (awake hP R).callQ rfl ?_
  rintro _ rfl
  conv => cbv
  refine br_f nt ?_
  conv => cbv
  refine callP_in (fz := []) hP hA Try.func8 rfl (by decide) rfl ok8 (by simp [labL, lab]) ?_
  conv => cbv
  by_cases b1 : 1 ≤ n0
  case neg =>
    have q2 : cmp .geq (ofN n0) 1 = false := by rw [o0, cmp_geq hA]; simp; omega
    simp only [q2]
    conv => cbv
    simp only [nf]
    conv => cbv
    intro ρ R'' _ _ _
    rfl
  have q2 : cmp .geq (ofN n0) 1 = true := by rw [o0, cmp_geq hA]; simp; omega
  simp only [q2]
  conv => cbv
  by_cases b2 : n0 ≤ 2000
  case neg =>
    have q3 : cmp .leq (ofN n0) 2000 = false := by rw [o0, cmp_leq hA]; simp; omega
    simp only [q3]
    conv => cbv
    simp only [nf]
    conv => cbv
    intro ρ R'' _ _ _
    rfl
  have q3 : cmp .leq (ofN n0) 2000 = true := by rw [o0, cmp_leq hA]; simp; omega
  simp only [q3]
  conv => cbv
  by_cases b3 : 1 ≤ F
  case neg =>
    have q4 : cmp .geq F 1 = false := by rw [cmp_geq hA]; simp; omega
    simp only [q4]
    conv => cbv
    simp only [nf]
    conv => cbv
    intro ρ R'' _ _ _
    rfl
  have q4 : cmp .geq F 1 = true := by rw [cmp_geq hA]; simp; omega
  simp only [q4]
  conv => cbv
  by_cases b4 : F ≤ 50
  case neg =>
    have q5 : cmp .leq F 50 = false := by rw [cmp_leq hA]; simp; omega
    simp only [q5]
    conv => cbv
    simp only [nf]
    conv => cbv
    intro ρ R'' _ _ _
    rfl
  have q5 : cmp .leq F 50 = true := by rw [cmp_leq hA]; simp; omega
  simp only [q5, nt]
  conv => cbv
  have eadd : bin .add .i64 (ofN n) (ofN m) = (n : Int) + m := by rw [o, o2]; exact add_i64 hA (by omega)
  by_cases b5 : n + m > 100000
  · refine br_t (by rw [eadd, cmp_gtr hA]; simp; omega) ?_
    conv => cbv
    intro ρ R'' _ _ _
    rfl
  refine br_f (by rw [eadd, cmp_gtr hA]; simp; omega) ?_
  conv => cbv
  refine (bloomAdd hP R a0 n0 c0 ps (h0) (by omega) (by omega) F F.toNat (by omega) (by omega) tw (by omega) (by omega) a n c xs (h) (by omega) hc).callP rfl ?_
  rintro R1 _ hR1 ⟨a1, c1, rfl, g1⟩
  conv => cbv
  refine (bloomAdd hP R1 a1 n0 c1 _ (g1) (by omega) (by omega) F F.toNat (by omega) (by omega) tw (by omega) (by omega) b m d ys (h2.le hR1) (by omega) hd).callP rfl ?_
  rintro R2 _ hR2 ⟨a2, c2, rfl, g2⟩
  conv => cbv
  have H0 := h0.le (RO.le_trans hR1 hR2)
  have H1 := h.le (RO.le_trans hR1 hR2)
  have H2 := h2.le (RO.le_trans hR1 hR2)
  refine (bloomAdd hP R2 a0 n0 c0 ps (H0) (by omega) (by omega) F F.toNat (by omega) (by omega) tw (by omega) (by omega) b m d ys (H2) (by omega) hd).callP rfl ?_
  rintro R3 _ hR3 ⟨a3, c3, rfl, g3⟩
  conv => cbv
  refine (bloomAdd hP R3 a3 n0 c3 _ (g3) (by omega) (by omega) F F.toNat (by omega) (by omega) tw (by omega) (by omega) a n c xs (H1.le hR3) (by omega) hc).callP rfl ?_
  rintro R4 _ hR4 ⟨a4, c4, rfl, g4⟩
  conv => cbv
  refine (bloomAdd hP R4 a4 n0 c4 _ (g4) (by omega) (by omega) F F.toNat (by omega) (by omega) tw (by omega) (by omega) b m d ys (H2.le (RO.le_trans hR3 hR4)) (by omega) hd).callP rfl ?_
  rintro R5 _ hR5 ⟨a5, c5, rfl, g5⟩
  conv => cbv
  refine callP_in (fz := []) hP hA Try.func10 rfl (by decide) rfl ok10 (by simp [labL, lab]) ?_
  conv => cbv
  refine (sameL hP R5 a2 a5 n0 n0 c2 c5 _ _ (g2.le (RO.le_trans hR3 (RO.le_trans hR4 hR5))) g5 (by omega) (by omega)).callQ rfl ?_
  rintro _ ⟨r, rfl, hr⟩
  obtain rfl : r = true := hr.2 (sbs_law ps _ _)
  conv => cbv
  have q6 : cmp .eql F F = true := by rw [cmp_eql hA]; simp
  have q7 : cmp .eql tw tw = true := by rw [cmp_eql hA]; simp
  simp only [q6]
  conv => cbv
  simp only [q7]
  conv => cbv
  intro ρ R'' _ _ _
  rfl
end Go.Proofs.Ytnlpjppjhikooaa.Bl
