/- What a script pushes: the law. -/
import Derived.Test.YtinbaelincgemaaTkj
set_option linter.unusedSimpArgs false
set_option linter.unusedVariables false
namespace Go.Proofs.Ytinbaelincgemaa.Tk
open Go Go.Se Go.Proofs Go.Proofs.Ytinbaelincgemaa.Tytok

theorem Toks.dlen {xs : List Int} {l : List Tok} {p : Nat} (h : Toks xs l p) : ∀ t ∈ l, t.data.length ≤ xs.length := by
  induction h with
  | nil => intro t ht; cases ht
  | snoc h ho hs ih =>
    intro t ht
    rcases List.mem_append.1 ht with ht | ht
    · exact ih t ht
    · simp at ht
      subst ht
      have := stepT_le hs
      simp at this ⊢
      omega


set_option maxRecDepth 100000 in
theorem pushedThin {P : Program} (hP : P = Try.prog) (R : RO) (a : Option Addr) (n c : Nat) (xs : List Int) (h : RI R .u8 a n xs) (hn : n ≤ 100000) (hc : n ≤ c) :
    RetP P 20 [.slice a n c] R fun R' v => ∃ l p a1 n1 c1 kind, v = .tuple #[.slice a1 n1 c1, .int .i64 kind] ∧ Toks xs l p ∧
      ((kind = 0 ∧ p = xs.length ∧ LAt R' 1 BA a1 n1 c1 (pushedOf l)) ∨ (kind ≠ 0 ∧ p < xs.length ∧ stepT (xs.drop p) = none)) := by
  subst hP
  have hl := h.len
  refine retP_vc (fz := []) Try.func20 rfl (by decide) rfl ok20 ?_
  intro P bin cmp cnv neg com bnot beq ofN toN at_ sub_ scmp cat sget ssz ssub elem fld_ hP hA
  conv => cbv
  refine (pushedPkg hP opSpec R a n c xs h hn hc).callP rfl ?_
  rintro R1 _ hR1 ⟨l, p, a1, n1, c1, er, rfl, ht, ⟨hp, rfl, hla⟩ | ⟨hp, hst, rfl, rfl, s, rfl⟩⟩
  · have hle := ht.le
    have hpl := pushed_len l
    have hll := hla.len
    conv => cbv
    refine (copies hP R1 a1 n1 c1 _ hla (by omega)).callP rfl ?_
    rintro R2 _ hR2 ⟨a2, n2, c2, rfl, h2⟩
    conv => cbv
    refine callP_in (fz := []) hP hA Try.func40 rfl (by decide) rfl ok40 (by simp [labL, lab]) ?_
    conv => cbv
    intro ρ R'' hle _ _
    exact ⟨l, p, a2, n2, c2, _, rfl, ht, .inl ⟨rfl, hp, h2.le hle (BA.le hle)⟩⟩
  · conv => cbv
    refine (copies hP R1 none 0 c1 [] LAt.nil (by omega)).callP rfl ?_
    rintro R2 _ hR2 ⟨a2, n2, c2, rfl, h2⟩
    conv => cbv
    refine callP_in (fz := []) hP hA Try.func40 rfl (by decide) rfl ok40 (by simp [labL, lab]) ?_
    conv => cbv
    intro ρ R'' hle _ _
    refine ⟨l, p, a2, n2, c2, _, rfl, ht, .inr ⟨?_, hp, hst⟩⟩
    show bin .add .i64 27 1 ≠ 0
    rw [add_i64 hA (by omega)]
    decide

set_option maxRecDepth 100000 in
theorem sameAll {P : Program} (hP : P = Try.prog) (R : RO) (a b : Option Addr) (n m c d : Nat) (xs : List (List Int)) (h : LAt R 1 BA a n c xs) (h2 : LAt R 1 BA b m d xs) : RetP P 21 [.slice a n c, .slice b m d] R fun _ v => v = .bool true := by
  subst hP
  have hl := h.len
  have hl2 := h2.len
  have hmx := h.mx
  unfold maxLen at hmx
  refine retP_vc (fz := []) Try.func21 rfl (by decide) rfl ok21 ?_
  intro P bin cmp cnv neg com bnot beq ofN toN at_ sub_ scmp cat sget ssz ssub elem fld_ hP hA
  conv => cbv
  have o := ofN_ hA n
  have o2 := ofN_ hA m
  refine br_f (by rw [o, o2, cmp_neq hA]; simp; omega) ?_
  conv => cbv
  refine ⟨Int, fun x => ⟨[(5, .v (.int .i64 x)), (0, .v (.slice a n c)), (1, .v (.slice b m d))], R, [], 0, []⟩,
    fun k x => ∃ i : Nat, x = i ∧ i ≤ n ∧ k = n - i, ⟨n, 0, ⟨⟨rfl, rfl, rfl, trivial⟩, rfl, trivial, rfl, .refl _⟩, 0, rfl, by omega, rfl⟩, ?_⟩
  rintro k x ⟨j, hx, hj, hk⟩
  conv => cbv
  by_cases hlt : j < n
  case neg =>
    refine br_f (by rw [o, cmp_lss hA]; simp; omega) ?_
    conv => cbv
    intro ρ R'' _ _ _
    rfl
  refine br_t (by rw [o, cmp_lss hA]; simp; omega) ?_
  conv => cbv
  refine ⟨[0, 1, 2, 3, 4, 5, 6, 7, 8, 9], [], mix hP, by kernel_rfl, ?_⟩
  conv => cbv
  obtain ⟨q, hxq⟩ : ∃ q, xs[j]? = some q := ⟨_, List.getElem?_eq_getElem (by omega)⟩
  refine ix_at hA h j hx hlt ?_
  refine ld_elem hA h j hx hxq ?_
  rintro _ - ⟨b2, m2, d2, rfl, k3, k4⟩
  refine ⟨_, rfl, ?_⟩
  conv => cbv
  refine ix_at hA h2 j hx (by omega) ?_
  refine ld_elem hA h2 j hx hxq ?_
  rintro _ - ⟨b5, m5, d5, rfl, k5, k6⟩
  refine ⟨_, rfl, ?_⟩
  conv => cbv
  refine (sameL hP R b2 b5 m2 m5 d2 d5 _ _ k3 k5 (by omega) (by omega)).callQ rfl ?_
  rintro _ ⟨rb, rfl, hrb⟩
  obtain rfl : rb = true := hrb.2 rfl
  conv => cbv
  refine ⟨⟨trivial, .refl _⟩, ?_⟩
  refine br_f (by rw [bnot_ hA]; rfl) ?_
  conv => cbv
  refine ⟨n - (j + 1), x + 1, by omega, ⟨⟨?_, rfl, rfl, trivial⟩, rfl, trivial, rfl, .refl _⟩, j + 1, by show x + 1 = ((j + 1 : Nat) : Int); omega, by omega, rfl⟩
  rw [add_i64 hA (by omega)]
  rfl

structure Lw where
  i : Int
  a : Option Addr
  n : Nat
  c : Nat
  zs : List Value
  rs : List Row

set_option maxRecDepth 100000 in
set_option maxHeartbeats 2000000 in
theorem law7 (R : RO) (a : Option Addr) (n c : Nat) (xs : List Int) (h : RI R .u8 a n xs) (hmx : n ≤ 9223372036854775807) (hc : n ≤ c) : RetP Try.prog 7 [.slice a n c] R fun _ v => v = .bool true := by
  have hl := h.len
  refine retP_vc (fz := []) Try.func7 rfl (by decide) rfl ok7 ?_
  intro P bin cmp cnv neg com bnot beq ofN toN at_ sub_ scmp cat sget ssz ssub elem fld_ hP hA
  conv => cbv
  have o := ofN_ hA n
  by_cases h1 : n > 2147483647
  · refine br_t (by rw [o, cmp_gtr hA]; simp; omega) ?_
    conv => cbv
    intro ρ R'' _ _ _
    rfl
  refine br_f (by rw [o, cmp_gtr hA]; simp; omega) ?_
  conv => cbv
  by_cases h2 : n > 100000
  · refine br_t (by rw [o, cmp_gtr hA]; simp; omega) ?_
    conv => cbv
    intro ρ R'' _ _ _
    rfl
  refine br_f (by rw [o, cmp_gtr hA]; simp; omega) ?_
  conv => cbv
  refine (pushedThin hP R a n c xs h (by omega) hc).callP rfl ?_
  rintro R1 _ hR1 ⟨l', p', a2, n2, c2, kind, rfl, ht', hkd⟩
  conv => cbv
  refine (tokens hP R1 a n c xs (h.le hR1) (by omega) hc).callP rfl ?_
  rintro R2 _ hR2 ⟨a1, n1, c1, bad, l, p, rfl, ht, g0, hd⟩
  have hst' : Stuck xs p' := by
    rcases hkd with ⟨_, hp, _⟩ | ⟨_, _, hs⟩
    · exact stuck_end hp
    · exact .inr hs
  obtain ⟨rfl, rfl⟩ := ht.one hd.stuck ht' hst'
  conv => cbv
  have q4 : bnot (beq (cmp .eql kind 0) (cmp .lss bad 0)) = false := by
    rw [bnot_ hA, beq_ hA, cmp_eql hA, cmp_lss hA]
    rcases hkd with ⟨hk, hp, _⟩ | ⟨hk, hp, _⟩ <;> rcases hd with ⟨hb, hp2⟩ | ⟨hb, hp2, _⟩
    · rw [hk, hb]; rfl
    · omega
    · omega
    · have x1 : (kind == 0) = false := by simpa using hk
      have x2 : decide (bad < 0) = false := decide_eq_false (by omega)
      rw [x1, x2]; rfl
  refine br_f q4 ?_
  conv => cbv
  rcases hd with ⟨hb, hp2⟩ | ⟨hb, hp2, _⟩
  case inr =>
    refine br_t (by rw [hb, cmp_geq hA]; simp) ?_
    conv => cbv
    intro ρ R'' _ _ _
    rfl
  refine br_f (by rw [hb, cmp_geq hA]; rfl) ?_
  conv => cbv
  have hgot : LAt R2 1 BA a2 n2 c2 (pushedOf l) := by
    rcases hkd with ⟨_, _, hla⟩ | ⟨_, hp, _⟩
    · exact hla.le hR2 (BA.le hR2)
    · omega
  have l0 := g0.len
  have hle := ht.le
  have e0 := ofN_ hA n1
  refine ⟨Lw, fun x => ⟨[(8, .v (.int .i64 x.i)), (7, .v (.slice x.a x.n x.c)), (5, .v (.slice a1 n1 c1)), (3, .v (.slice a2 n2 c2))], R2, [], 0, x.rs⟩,
    fun k x => ∃ j : Nat, x.i = j ∧ j ≤ l.length ∧ k = l.length - j ∧ Base1 x.rs [] x.a x.n x.c 22 1 x.zs ∧ Each BA R2 x.zs (pushedOf (l.take j)) ∧ x.n = (pushedOf (l.take j)).length ∧ (x.n ≠ 0 → x.a.isSome = true),
    ⟨l.length, ⟨0, none, 0, 0, [], []⟩, ⟨⟨rfl, rfl, rfl, rfl, trivial⟩, rfl, trivial, rfl, .refl _⟩, 0, rfl, by omega, rfl, Base1.nil, Each.nil, rfl, fun h => absurd rfl h⟩, ?_⟩
  rintro k ⟨x, a4, n4, c4, zs, rs⟩ ⟨j, hx, hj, hk, hb4, he4, hn4, hs4⟩
  simp only at hx hb4 he4 hn4 hs4
  have hpl := pushed_len (l.take j)
  rw [List.length_take] at hpl
  conv => cbv
  by_cases hlt : j < l.length
  case neg =>
    refine br_f (by rw [e0, cmp_lss hA]; simp; omega) ?_
    conv => cbv
    rw [List.take_of_length_le (by omega)] at he4 hn4
    have hpl2 := pushed_len l
    rcases hb4 with ⟨rfl, rfl, rfl, rfl, rfl⟩ | rfl
    · have hnil : pushedOf l = [] := List.eq_nil_of_length_eq_zero hn4.symm
      rw [hnil] at hgot
      refine (sameAll hP R2 a2 none n2 0 c2 0 [] hgot LAt.nil).callQ rfl ?_
      rintro _ rfl
      conv => cbv
      intro ρ R'' _ _ _
      rfl
    · refine RetP.callLend (Φ := fun v => v = .bool true) (vs := [.slice a2 n2 c2, .slice a4 n4 c4]) 0 (r := ⟨a4, n4, c4, 22, 1, zs⟩) rfl (fun R3 hR3 hpr => ?_) rfl ?_ ⟨_, by rw [hP]; exact Try.func21, by decide, rfl⟩
      · exact sameAll hP R3 a2 a4 n2 n4 c2 c4 _ (hgot.le hR3 (BA.le hR3)) (hpr.lat hn4 hs4 rfl (he4.le fun _ _ h => BA.le hR3 _ _ h) (by show n4 ≤ maxLen; unfold maxLen; omega))
      rintro _ rfl
      conv => cbv
      intro ρ R'' _ _ _
      rfl
  refine br_t (by rw [e0, cmp_lss hA]; simp; omega) ?_
  conv => cbv
  obtain ⟨q, hxq⟩ : ∃ q, l[j]? = some q := ⟨_, List.getElem?_eq_getElem hlt⟩
  have hps := pushed_snoc (l.take j) q
  have htk : l.take j ++ [q] = l.take (j + 1) := by rw [List.take_add_one, hxq]; rfl
  rw [htk] at hps
  have ex : bin .add .i64 x 1 = x + 1 := add_i64 hA (by omega)
  refine ix_at hA g0 j hx (by omega) ?_
  refine ld_fld hA g0 j hx hxq 0 ?_
  rintro _ - ⟨b1, m1, d1, rfl, k1, k2⟩
  refine ⟨_, rfl, ?_⟩
  conv => cbv
  by_cases hq : q.op ≤ 78
  · rw [if_pos hq] at hps
    refine br_t (by rw [cmp_leq hA]; simpa using hq) ?_
    conv => cbv
    refine ix_at hA g0 j hx (by omega) ?_
    refine ld_fld hA g0 j hx hxq 1 ?_
    rintro _ - ⟨b5, m5, d5, rfl, k5, k6⟩
    refine ⟨_, rfl, ?_⟩
    conv => cbv
    have hm5 := k5.len
    have hdl := ht.dlen q (List.mem_of_getElem? hxq)
    refine ⟨n4, zs, _, _, _, 1, [.slice b5 m5 d5], hb4.base, .refl _, .own _ _ _ _ _ _ rfl rfl rfl (by simp [Value.oneCell']), by omega, by omega, ?_⟩
    intro a6 n6 c6 z6 hn6 hz6 hs6
    conv => cbv
    refine ⟨l.length - (j + 1), ⟨x + 1, a6, n6, c6, z6, _⟩, by omega, ⟨⟨?_, rfl, rfl, rfl, trivial⟩, rfl, trivial, rfl, .refl _⟩, j + 1, by show x + 1 = ((j + 1 : Nat) : Int); omega, by omega, rfl, Base1.row, ?_, ?_, hs6⟩
    · rw [add_i64 hA (by omega)]
      rfl
    · show Each BA R2 z6 _
      rw [hz6, hps]
      exact he4.app ⟨b5, m5, d5, rfl, k5, by omega⟩
    · show n6 = _
      rw [hps, List.length_append, hn6, hn4]
      rfl
  · rw [if_neg hq] at hps
    refine br_f (by rw [cmp_leq hA]; simpa using hq) ?_
    conv => cbv
    refine ⟨l.length - (j + 1), ⟨x + 1, a4, n4, c4, zs, _⟩, by omega, ⟨⟨?_, rfl, rfl, rfl, trivial⟩, rfl, trivial, rfl, .refl _⟩, j + 1, by show x + 1 = ((j + 1 : Nat) : Int); omega, by omega, rfl, hb4, ?_, ?_, hs4⟩
    · rw [add_i64 hA (by omega)]
      rfl
    · show Each BA R2 zs _
      rw [hps]
      exact he4
    · show n4 = _
      rw [hps, hn4]
end Go.Proofs.Ytinbaelincgemaa.Tk
