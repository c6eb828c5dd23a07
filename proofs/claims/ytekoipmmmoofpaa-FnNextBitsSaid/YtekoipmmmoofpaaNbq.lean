/- Great numbers: what a compact number stands for; the compact number of one, by the reference. -/
import Derived.Test.YtekoipmmmoofpaaCoe
import Derived.Test.YtekoipmmmoofpaaSl
import Derived.Test.YtekoipmmmoofpaaProg
import Derived.KernelRfl
-- merged
/- The types that some functions name, as the evaluator wants them. Printed by a program of my own (seatgen.py). -/
namespace Go.Proofs.Ytekoipmmmoofpaa.Tyns
open Go Go.Se Go.Proofs

/-- int -/
def y3 : Ty := ⟨.int .i64, 1, false, .int .i64 0, 8⟩
theorem ty3 : tyOf Try.prog 3 = some y3 := by kernel_rfl
/-- uint8 -/
def y5 : Ty := ⟨.int .u8, 1, false, .int .u8 0, 1⟩
theorem ty5 : tyOf Try.prog 5 = some y5 := by kernel_rfl
/-- []uint8 -/
def y22 : Ty := ⟨.slc 5, 1, false, .slice none 0 0, 24⟩
theorem ty22 : tyOf Try.prog 22 = some y22 := by kernel_rfl
/-- uint32 -/
def y23 : Ty := ⟨.int .u32, 1, false, .int .u32 0, 4⟩
theorem ty23 : tyOf Try.prog 23 = some y23 := by kernel_rfl

/-- function 9: pub-mintmark/spec.Compact -/
def tys9 : Nat → Option Ty := fun t => find [(22, y22), (5, y5), (3, y3), (23, y23)] t
theorem ok9 : TysOk Try.prog tys9 := tysOk_of ⟨ty22, ty5, ty3, ty23, trivial⟩

/-- function 19: pub-mintmark/spec.trim -/
def tys19 : Nat → Option Ty := fun t => find [(22, y22), (5, y5), (3, y3)] t
theorem ok19 : TysOk Try.prog tys19 := tysOk_of ⟨ty22, ty5, ty3, trivial⟩
end Go.Proofs.Ytekoipmmmoofpaa.Tyns
set_option linter.unusedSimpArgs false
set_option linter.unusedVariables false
namespace Go.Proofs.Ytekoipmmmoofpaa.Co
open Go Go.Se Go.Proofs Go.Proofs.Ytekoipmmmoofpaa.Ht Go.Proofs.Ytekoipmmmoofpaa.Tyns

def ex (X : Nat) : Nat := if 8388608 ≤ man X then (dl X).length + 1 else (dl X).length
def mx (X : Nat) : Nat := if 8388608 ≤ man X then man X / 256 else man X

theorem mx_lt (X : Nat) : mx X < 8388608 := by
  have := man_lt X
  rw [mx]
  split <;> omega

theorem mx_pos {X : Nat} (h : X ≠ 0) : 1 ≤ mx X := by
  have := man_pos h
  rw [mx]
  split <;> omega

theorem cmpt_eq {X : Nat} (h : X ≠ 0) : cmpt X = ex X * 16777216 + mx X := by
  rw [cmpt, if_neg h, ex, mx]
  split <;> rfl

/-- What the compact number of one stands for. -/
def tgt (X : Nat) : Nat := if X = 0 then 0 else if ex X ≤ 3 then mx X / 256 ^ (3 - ex X) else mx X * 256 ^ (ex X - 3)

/-- The highest three bytes as they are kept. -/
def kept (X : Nat) : Nat := if 8388608 ≤ man X then man X / 256 * 256 else man X

theorem tgt_form {X : Nat} (h : X ≠ 0) : tgt X = X ∨ (3 ≤ (dl X).length ∧ tgt X = kept X * 256 ^ ((dl X).length - 3)) := by
  obtain ⟨L, hL⟩ : ∃ L, L = (dl X).length := ⟨_, rfl⟩
  have hl1 := (dl_len X h).1
  rw [tgt, if_neg h, ex, mx, kept, ← hL]
  by_cases hm : 8388608 ≤ man X
  · rw [if_pos hm, if_pos hm, if_pos hm]
    by_cases h3 : L + 1 ≤ 3
    · rw [if_pos h3]
      refine .inl ?_
      have e1 : man X = X * 256 ^ (3 - L) := by rw [man, if_pos (by omega), ← hL]
      rw [Nat.div_div_eq_div_mul, Nat.mul_comm 256, ← Nat.pow_succ, show (3 - (L + 1)).succ = 3 - L by omega, e1, Nat.mul_div_cancel _ (Nat.pow_pos (by decide))]
    · rw [if_neg h3]
      refine .inr ⟨by omega, ?_⟩
      rw [Nat.mul_assoc, Nat.mul_comm 256 (256 ^ (L - 3)), ← Nat.pow_succ, show (L - 3).succ = L + 1 - 3 by omega]
  · rw [if_neg hm, if_neg hm, if_neg hm]
    by_cases h3 : L ≤ 3
    · rw [if_pos h3]
      refine .inl ?_
      have e1 : man X = X * 256 ^ (3 - L) := by rw [man, if_pos (by omega), ← hL]
      rw [e1, Nat.mul_div_cancel _ (Nat.pow_pos (by decide))]
    · rw [if_neg h3]
      exact .inr ⟨by omega, rfl⟩

theorem kept_lt {X : Nat} (h : X ≠ 0) : 65536 ≤ kept X ∧ kept X < 16777216 := by
  have h1 := man_pos h
  have h2 := man_lt X
  rw [kept]
  split <;> omega

theorem tgt_len {X : Nat} (h : X ≠ 0) : (dl (tgt X)).length = (dl X).length := by
  rcases tgt_form h with e | ⟨h3, e⟩
  · rw [e]
  · obtain ⟨k1, k2⟩ := kept_lt h
    obtain ⟨j, hj⟩ : ∃ j, (dl X).length = j + 3 := ⟨(dl X).length - 3, by omega⟩
    rw [hj] at e ⊢
    rw [Nat.add_sub_cancel] at e
    refine dl_size (k := j + 2) ?_ ?_
    · rw [e, Nat.pow_add, Nat.mul_comm]
      exact Nat.mul_le_mul_right _ k1
    · rw [e, show j + 2 + 1 = 3 + j by omega, Nat.pow_add]
      exact Nat.mul_lt_mul_of_pos_right k2 (Nat.pow_pos (by decide))

theorem man3 {X : Nat} (h : 3 ≤ (dl X).length) : man X = X / 256 ^ ((dl X).length - 3) := by
  rw [man]
  split
  · rw [show (dl X).length = 3 by omega]; simp
  · rfl

theorem tgt_ne {X : Nat} (h : X ≠ 0) : tgt X ≠ 0 := fun e => by
  have h1 := tgt_len h
  rw [e, dl0] at h1
  have := (dl_len X h).1
  simp at h1
  omega

theorem man_tgt {X : Nat} (h : X ≠ 0) : tgt X = X ∨ man (tgt X) = kept X := by
  rcases tgt_form h with e | ⟨h3, e⟩
  · exact .inl e
  · refine .inr ?_
    rw [man3 (by rw [tgt_len h]; exact h3), tgt_len h, e, Nat.mul_div_cancel _ (Nat.pow_pos (by decide))]

theorem cmpt_tgt (X : Nat) : cmpt (tgt X) = cmpt X := by
  by_cases h : X = 0
  · rw [h]; rfl
  · rcases man_tgt h with e | e
    · rw [e]
    · have h1 := man_pos h
      rw [cmpt, if_neg (tgt_ne h), cmpt, if_neg h, e, tgt_len h, kept]
      by_cases hm : 8388608 ≤ man X
      · rw [if_pos hm, if_pos hm, if_pos (by omega), Nat.mul_div_cancel _ (by decide)]
      · rw [if_neg hm, if_neg hm]

theorem tgt_top {X : Nat} (h : X ≠ 0) (i : Nat) (hi : i < 2) (hl : i < (dl X).length) : tgt X / 256 ^ ((dl X).length - 1 - i) % 256 = X / 256 ^ ((dl X).length - 1 - i) % 256 := by
  rcases tgt_form h with e | ⟨h3, e⟩
  · rw [e]
  · obtain ⟨j, hj⟩ : ∃ j, (dl X).length = j + 3 := ⟨(dl X).length - 3, by omega⟩
    have hm := man3 h3
    rw [hj] at e hm ⊢
    rw [Nat.add_sub_cancel] at e hm
    have e2 : tgt X / 256 ^ (j + 1) = X / 256 ^ (j + 1) := by
      rw [e, Nat.pow_succ, ← Nat.div_div_eq_div_mul, Nat.mul_div_cancel _ (Nat.pow_pos (by decide)), ← Nat.div_div_eq_div_mul, ← hm, kept]
      split <;> omega
    have hi01 : i = 0 ∨ i = 1 := by omega
    rcases hi01 with rfl | rfl
    · rw [show j + 3 - 1 - 0 = j + 1 + 1 by omega, Nat.pow_succ, ← Nat.div_div_eq_div_mul, ← Nat.div_div_eq_div_mul, e2]
    · rw [show j + 3 - 1 - 1 = j + 1 by omega, e2]

theorem and23 {x : Nat} (h : x / 8388608 % 2 = 0) : x &&& 8388608 = 0 := by
  apply Nat.eq_of_testBit_eq
  intro i
  rw [Nat.testBit_and, Nat.zero_testBit]
  by_cases e : i = 23
  · subst e
    have h4 : Nat.testBit x 23 = false := by rw [Nat.testBit_eq_decide_div_mod_eq]; exact decide_eq_false (by omega)
    rw [h4]
    rfl
  · rw [show 8388608 = 2 ^ 23 by decide, Nat.testBit_two_pow_of_ne (Ne.symm e), Bool.and_false]

/-- The first bytes, filled up. -/
def pm (X N i : Nat) : Nat := if i ≤ N then X / 256 ^ (N - i) else X * 256 ^ (i - N)

theorem pm_lt {X : Nat} (i : Nat) : pm X (dl X).length i < 256 ^ i := by
  have c := dl_lt X
  rw [pm]
  split
  · rw [Nat.div_lt_iff_lt_mul (Nat.pow_pos (by decide)), ← Nat.pow_add, show i + ((dl X).length - i) = (dl X).length by omega]
    exact c
  · have e : 256 ^ (dl X).length * 256 ^ (i - (dl X).length) = 256 ^ i := by rw [← Nat.pow_add, show (dl X).length + (i - (dl X).length) = i by omega]
    rw [← e]
    exact Nat.mul_lt_mul_of_pos_right c (Nat.pow_pos (by decide))

theorem pm_step {X N i : Nat} (h : i < N) : pm X N (i + 1) = pm X N i * 256 + X / 256 ^ (N - 1 - i) % 256 := by
  rw [pm, if_pos (by omega), pm, if_pos (by omega), show N - i = (N - 1 - i) + 1 by omega, Nat.pow_succ, ← Nat.div_div_eq_div_mul, show N - (i + 1) = N - 1 - i by omega]
  omega

theorem pm_over {X N i : Nat} (h : N ≤ i) : pm X N (i + 1) = pm X N i * 256 := by
  rw [pm, if_neg (by omega)]
  by_cases e : i = N
  · rw [pm, if_pos (by omega), e, show N + 1 - N = 1 by omega, Nat.sub_self, Nat.pow_zero, Nat.div_one, Nat.pow_one]
  · rw [pm, if_neg (by omega), Nat.mul_assoc, ← Nat.pow_succ, show (i - N).succ = i + 1 - N by omega]

theorem pm_man (X : Nat) : pm X (dl X).length 3 = man X := by
  rw [pm, man]
  by_cases h : (dl X).length ≤ 3
  · rw [if_pos h]
    by_cases e : (dl X).length = 3
    · rw [if_pos (by omega), e]; simp
    · rw [if_neg (by omega)]
  · rw [if_neg h, if_pos (by omega)]

structure Ls where
  i : Int
  v : Int


set_option maxRecDepth 100000 in
set_option maxHeartbeats 2000000 in
theorem compactS {P : Program} (hP : P = Try.prog) (R : RO) (a : Option Addr) (N c X : Nat) (xs : List Int) (h : RI R .u8 a N xs) (hc : N ≤ c) (hN : N ≤ 250) (hx : xs = (dl X).reverse) (hne : N ≠ 0 → xs.getD 0 0 ≠ 0) (CX : Nat) (hCX : CX = cmpt X) :
    RetP P 9 [.slice a N c] R fun _ r => ∃ ci : Int, r = .int .u32 ci ∧ ci = (CX : Nat) := by
  subst hP
  have hl := h.len
  have hdL : (dl X).length = N := by rw [hl, hx, List.length_reverse]
  refine retP_vc (fz := []) Try.func9 rfl (by decide) rfl ok9 ?_
  intro P bin cmp cnv neg com bnot beq ofN toN at_ sub_ scmp cat sget ssz ssub elem fld_ hP hA
  conv => cbv
  have o := ofN_ hA N
  refine callP_in (fz := []) hP hA Try.func19 rfl (by decide) rfl ok19 (by simp [labL, lab]) ?_
  conv => cbv
  refine ⟨Unit, fun _ => ⟨[(3, .v (.int .i64 0)), (0, .v (.slice a N c))], R, [], 0, []⟩, fun m _ => m = 0, ⟨0, (), ⟨⟨rfl, rfl, trivial⟩, rfl, trivial, rfl, .refl _⟩, rfl⟩, ?_⟩
  rintro m _ hm
  conv => cbv
  have key : ∀ {Q : Prop}, Q → Q := fun q => q
  by_cases h0 : N = 0
  · have cg : cmp .lss 0 (ofN N) = false := by rw [o, cmp_lss hA]; simp; omega
    simp (maxSteps := 10000000) only [cg]
    conv => cbv
    refine ⟨0, N, rfl, rfl, by omega, hc, ?_⟩
    intro a5 n5 c5 hn5 hc5 ha5
    have h5 := h.part' (l := 0) (m := N) (by omega) (Nat.le_refl _) hn5 hc ha5
    have e5 : ((xs).drop 0).take (N - 0) = xs := by rw [List.drop_zero, List.take_of_length_le (by omega)]
    rw [e5] at h5
    conv => cbv
    refine ⟨0, [], _, _, _, n5, _, .own _ 0 _ [] rfl rfl rfl rfl (by decide), .refl _, h5.src, by omega, by omega, ?_⟩
    intro a6 n6 c6 z6 hn6 hz6 hs6
    obtain rfl : N = n6 := by omega
    conv => cbv
    refine ⟨Ls, fun x => ⟨[(5, .v (.int .i64 x.i)), (4, .v (.int .u32 x.v)), (3, .v (.int .i64 (ofN N))), (0, .v (.slice a6 N c6))], R, [], 1, [⟨a6, N, c6, 5, 1, z6⟩]⟩,
      fun m x => ∃ (i q : Nat), x.i = i ∧ i ≤ 3 ∧ m = 3 - i ∧ x.v = (q : Nat) ∧ q = pm X N i, ⟨3, ⟨0, 0⟩, ⟨⟨rfl, rfl, rfl, rfl, trivial⟩, rfl, trivial, rfl, .refl _⟩, 0, 0, rfl, by omega, rfl, rfl, by rw [pm, if_pos (by omega), Nat.sub_zero, Nat.div_eq_of_lt (by rw [← hdL]; exact dl_lt X)]⟩, ?_⟩
    rintro m ⟨ii, v⟩ ⟨i, q, hi, hi3, hm, hv, hq⟩
    simp only at hi hv
    have hql := pm_lt (X := X) i
    rw [hdL, ← hq] at hql
    conv => cbv
    by_cases hlt : i < 3
    · refine br_t (by rw [cmp_lss hA]; simp; omega) ?_
      conv => cbv
      have hq16 : q < 65536 := by
        have h2 := Nat.pow_le_pow_right (show 0 < 256 by decide) (show i ≤ 2 by omega)
        simp only [Nat.reducePow] at h2
        omega
      have em : bin .mul .u32 v 256 = ((q * 256 : Nat) : Int) := by rw [hv, mul_u32 hA (by omega)]; omega
      by_cases hin : i < N
      · refine br_t (by rw [o, cmp_lss hA]; simp; omega) ?_
        conv => cbv
        obtain ⟨a6, rfl⟩ := Option.isSome_iff_exists.1 (hs6 (by omega))
        have hb : xs[i]? = some ((X / 256 ^ (N - 1 - i) % 256 : Nat) : Int) := by
          rw [hx, List.getElem?_reverse (by omega), hdL, getD_get (l := dl X) (i := N - 1 - i) (by omega)]
          exact congrArg some (dl_get X _ _ (getD_get (by omega)))
        obtain ⟨bt, hbt⟩ : ∃ b : Int, b = ((X / 256 ^ (N - 1 - i) % 256 : Nat) : Int) := ⟨_, rfl⟩
        rw [← hbt] at hb
        refine ⟨by omega, by rw [o]; omega, rfl, ?_⟩
        refine ld_row hA 0 (r := ⟨some a6, N, c6, 5, 1, z6⟩) rfl rfl rfl (v := .int .u8 bt) (by show z6[_]? = _; rw [hz6, show ii.toNat = i by omega]; show (ints .u8 xs)[i]? = _; rw [ints, List.getElem?_map, hb]; rfl) ?_
        conv => cbv
        have ea : bin .add .u32 (bin .mul .u32 v 256) (cnv .u32 bt) = ((pm X N (i + 1) : Nat) : Int) := by
          rw [em, cnv_u32 hA (by omega), add_u32 hA (by omega), pm_step hin, ← hq, hbt]
          omega
        exact ⟨3 - (i + 1), ⟨bin .add .i64 ii 1, bin .add .u32 (bin .mul .u32 v 256) (cnv .u32 bt)⟩, by omega, ⟨⟨rfl, rfl, rfl, rfl, trivial⟩, rfl, trivial, rfl, .refl _⟩, i + 1, _, by show bin .add .i64 ii 1 = _; rw [hi, add_i64 hA (by omega)]; rfl, by omega, rfl, ea, rfl⟩
      · refine br_f (by rw [o, cmp_lss hA]; simp; omega) ?_
        conv => cbv
        have ea : bin .mul .u32 v 256 = ((pm X N (i + 1) : Nat) : Int) := by rw [em, pm_over (by omega), ← hq]
        exact ⟨3 - (i + 1), ⟨bin .add .i64 ii 1, bin .mul .u32 v 256⟩, by omega, ⟨⟨rfl, rfl, rfl, rfl, trivial⟩, rfl, trivial, rfl, .refl _⟩, i + 1, _, by show bin .add .i64 ii 1 = _; rw [hi, add_i64 hA (by omega)]; rfl, by omega, rfl, ea, rfl⟩
    refine br_f (by rw [cmp_lss hA]; simp; omega) ?_
    conv => cbv
    have hqm : q = man X := by rw [hq, show i = 3 by omega, ← hdL, pm_man]
    have hml := man_lt X
    by_cases hX0 : X = 0
    · have hN0 : N = 0 := by rw [← hdL, hX0, dl0]; rfl
      have hq0 : q = 0 := by rw [hq, pm, hX0]; split <;> simp
      refine br_f (by rw [hv, cmp_geq hA]; simp; omega) ?_
      conv => cbv
      refine ⟨by decide, ?_⟩
      intro ρ R'' _ _ _
      refine ⟨_, rfl, ?_⟩
      have e4 := shw_u32 hA (x := N) (y := 24) (by decide)
      have e5 : cnv .u32 (ofN N) = (N : Int) := by rw [o]; exact cnv_u32 hA (by omega)
      rw [e5, hv]
      refine (congrArg (fun z => bin .add .u32 z (q : Int)) e4).trans ?_
      show bin .add .u32 ((N * 2 ^ 24 % 4294967296 : Nat) : Int) (q : Int) = _
      rw [add_u32 hA (by omega), hCX, cmpt, if_pos hX0, ← Int.natCast_add]
      congr 1
      simp only [Nat.reducePow]
      omega
    by_cases h23 : 8388608 ≤ man X
    · refine br_t (by rw [hv, cmp_geq hA]; simp; omega) ?_
      conv => cbv
      refine ⟨by decide, ?_⟩
      refine ⟨by decide, ?_⟩
      intro ρ R'' _ _ _
      refine ⟨_, rfl, ?_⟩
      have e1 : bin .quo .u32 v 256 = ((man X / 256 : Nat) : Int) := by rw [hv, hqm, quo_u32 hA (by omega) (by omega) (by decide)]; omega
      have e2 : bin .add .i64 (ofN N) 1 = ((N + 1 : Nat) : Int) := by rw [o, add_i64 hA (by omega)]; rfl
      have e5 : cnv .u32 (bin .add .i64 (ofN N) 1) = ((N + 1 : Nat) : Int) := by rw [e2]; exact cnv_u32 hA (by omega)
      have e4 := shw_u32 hA (x := N + 1) (y := 24) (by decide)
      rw [e5, e1]
      refine (congrArg (fun z => bin .add .u32 z ((man X / 256 : Nat) : Int)) e4).trans ?_
      show bin .add .u32 (((N + 1) * 2 ^ 24 % 4294967296 : Nat) : Int) ((man X / 256 : Nat) : Int) = _
      rw [add_u32 hA (by omega), hCX, cmpt, if_neg hX0, if_pos h23, hdL, ← Int.natCast_add]
      congr 1
      simp only [Nat.reducePow]
      omega
    refine br_f (by rw [hv, cmp_geq hA]; simp; omega) ?_
    conv => cbv
    refine ⟨by decide, ?_⟩
    intro ρ R'' _ _ _
    refine ⟨_, rfl, ?_⟩
    have e4 := shw_u32 hA (x := N) (y := 24) (by decide)
    have e5 : cnv .u32 (ofN N) = (N : Int) := by rw [o]; exact cnv_u32 hA (by omega)
    rw [e5, hv]
    refine (congrArg (fun z => bin .add .u32 z (q : Int)) e4).trans ?_
    show bin .add .u32 ((N * 2 ^ 24 % 4294967296 : Nat) : Int) (q : Int) = _
    rw [add_u32 hA (by omega), hCX, cmpt, if_neg hX0, if_neg h23, hdL, ← Int.natCast_add]
    congr 1
    simp only [Nat.reducePow]
    omega
  have cg : cmp .lss 0 (ofN N) = true := by rw [o, cmp_lss hA]; simp; omega
  simp (maxSteps := 10000000) only [cg]
  conv => cbv
  refine ix_ri h o 0 rfl (by omega) ?_
  refine ld_u8 hA h (by omega) (by omega) ?_
  intro d hd hd0 hd1
  have hdne : d ≠ 0 := by rw [hd]; exact hne h0
  conv => cbv
  have ce : cmp .eql d 0 = false := by rw [cmp_eql hA]; simp; omega
  simp (maxSteps := 10000000) only [ce]
  conv => cbv
  refine ⟨0, N, rfl, rfl, by omega, hc, ?_⟩
  intro a5 n5 c5 hn5 hc5 ha5
  have h5 := h.part' (l := 0) (m := N) (by omega) (Nat.le_refl _) hn5 hc ha5
  have e5 : ((xs).drop 0).take (N - 0) = xs := by rw [List.drop_zero, List.take_of_length_le (by omega)]
  rw [e5] at h5
  conv => cbv
  refine ⟨0, [], _, _, _, n5, _, .own _ 0 _ [] rfl rfl rfl rfl (by decide), .refl _, h5.src, by omega, by omega, ?_⟩
  intro a6 n6 c6 z6 hn6 hz6 hs6
  obtain rfl : N = n6 := by omega
  conv => cbv
  refine ⟨Ls, fun x => ⟨[(5, .v (.int .i64 x.i)), (4, .v (.int .u32 x.v)), (3, .v (.int .i64 (ofN N))), (0, .v (.slice a6 N c6))], R, [], 1, [⟨a6, N, c6, 5, 1, z6⟩]⟩,
    fun m x => ∃ (i q : Nat), x.i = i ∧ i ≤ 3 ∧ m = 3 - i ∧ x.v = (q : Nat) ∧ q = pm X N i, ⟨3, ⟨0, 0⟩, ⟨⟨rfl, rfl, rfl, rfl, trivial⟩, rfl, trivial, rfl, .refl _⟩, 0, 0, rfl, by omega, rfl, rfl, by rw [pm, if_pos (by omega), Nat.sub_zero, Nat.div_eq_of_lt (by rw [← hdL]; exact dl_lt X)]⟩, ?_⟩
  rintro m ⟨ii, v⟩ ⟨i, q, hi, hi3, hm, hv, hq⟩
  simp only at hi hv
  have hql := pm_lt (X := X) i
  rw [hdL, ← hq] at hql
  conv => cbv
  by_cases hlt : i < 3
  · refine br_t (by rw [cmp_lss hA]; simp; omega) ?_
    conv => cbv
    have hq16 : q < 65536 := by
      have h2 := Nat.pow_le_pow_right (show 0 < 256 by decide) (show i ≤ 2 by omega)
      simp only [Nat.reducePow] at h2
      omega
    have em : bin .mul .u32 v 256 = ((q * 256 : Nat) : Int) := by rw [hv, mul_u32 hA (by omega)]; omega
    by_cases hin : i < N
    · refine br_t (by rw [o, cmp_lss hA]; simp; omega) ?_
      conv => cbv
      obtain ⟨a6, rfl⟩ := Option.isSome_iff_exists.1 (hs6 (by omega))
      have hb : xs[i]? = some ((X / 256 ^ (N - 1 - i) % 256 : Nat) : Int) := by
        rw [hx, List.getElem?_reverse (by omega), hdL, getD_get (l := dl X) (i := N - 1 - i) (by omega)]
        exact congrArg some (dl_get X _ _ (getD_get (by omega)))
      obtain ⟨bt, hbt⟩ : ∃ b : Int, b = ((X / 256 ^ (N - 1 - i) % 256 : Nat) : Int) := ⟨_, rfl⟩
      rw [← hbt] at hb
      refine ⟨by omega, by rw [o]; omega, rfl, ?_⟩
      refine ld_row hA 0 (r := ⟨some a6, N, c6, 5, 1, z6⟩) rfl rfl rfl (v := .int .u8 bt) (by show z6[_]? = _; rw [hz6, show ii.toNat = i by omega]; show (ints .u8 xs)[i]? = _; rw [ints, List.getElem?_map, hb]; rfl) ?_
      conv => cbv
      have ea : bin .add .u32 (bin .mul .u32 v 256) (cnv .u32 bt) = ((pm X N (i + 1) : Nat) : Int) := by
        rw [em, cnv_u32 hA (by omega), add_u32 hA (by omega), pm_step hin, ← hq, hbt]
        omega
      exact ⟨3 - (i + 1), ⟨bin .add .i64 ii 1, bin .add .u32 (bin .mul .u32 v 256) (cnv .u32 bt)⟩, by omega, ⟨⟨rfl, rfl, rfl, rfl, trivial⟩, rfl, trivial, rfl, .refl _⟩, i + 1, _, by show bin .add .i64 ii 1 = _; rw [hi, add_i64 hA (by omega)]; rfl, by omega, rfl, ea, rfl⟩
    · refine br_f (by rw [o, cmp_lss hA]; simp; omega) ?_
      conv => cbv
      have ea : bin .mul .u32 v 256 = ((pm X N (i + 1) : Nat) : Int) := by rw [em, pm_over (by omega), ← hq]
      exact ⟨3 - (i + 1), ⟨bin .add .i64 ii 1, bin .mul .u32 v 256⟩, by omega, ⟨⟨rfl, rfl, rfl, rfl, trivial⟩, rfl, trivial, rfl, .refl _⟩, i + 1, _, by show bin .add .i64 ii 1 = _; rw [hi, add_i64 hA (by omega)]; rfl, by omega, rfl, ea, rfl⟩
  refine br_f (by rw [cmp_lss hA]; simp; omega) ?_
  conv => cbv
  have hqm : q = man X := by rw [hq, show i = 3 by omega, ← hdL, pm_man]
  have hml := man_lt X
  by_cases hX0 : X = 0
  · have hN0 : N = 0 := by rw [← hdL, hX0, dl0]; rfl
    have hq0 : q = 0 := by rw [hq, pm, hX0]; split <;> simp
    refine br_f (by rw [hv, cmp_geq hA]; simp; omega) ?_
    conv => cbv
    refine ⟨by decide, ?_⟩
    intro ρ R'' _ _ _
    refine ⟨_, rfl, ?_⟩
    have e4 := shw_u32 hA (x := N) (y := 24) (by decide)
    have e5 : cnv .u32 (ofN N) = (N : Int) := by rw [o]; exact cnv_u32 hA (by omega)
    rw [e5, hv]
    refine (congrArg (fun z => bin .add .u32 z (q : Int)) e4).trans ?_
    show bin .add .u32 ((N * 2 ^ 24 % 4294967296 : Nat) : Int) (q : Int) = _
    rw [add_u32 hA (by omega), hCX, cmpt, if_pos hX0, ← Int.natCast_add]
    congr 1
    simp only [Nat.reducePow]
    omega
  by_cases h23 : 8388608 ≤ man X
  · refine br_t (by rw [hv, cmp_geq hA]; simp; omega) ?_
    conv => cbv
    refine ⟨by decide, ?_⟩
    refine ⟨by decide, ?_⟩
    intro ρ R'' _ _ _
    refine ⟨_, rfl, ?_⟩
    have e1 : bin .quo .u32 v 256 = ((man X / 256 : Nat) : Int) := by rw [hv, hqm, quo_u32 hA (by omega) (by omega) (by decide)]; omega
    have e2 : bin .add .i64 (ofN N) 1 = ((N + 1 : Nat) : Int) := by rw [o, add_i64 hA (by omega)]; rfl
    have e5 : cnv .u32 (bin .add .i64 (ofN N) 1) = ((N + 1 : Nat) : Int) := by rw [e2]; exact cnv_u32 hA (by omega)
    have e4 := shw_u32 hA (x := N + 1) (y := 24) (by decide)
    rw [e5, e1]
    refine (congrArg (fun z => bin .add .u32 z ((man X / 256 : Nat) : Int)) e4).trans ?_
    show bin .add .u32 (((N + 1) * 2 ^ 24 % 4294967296 : Nat) : Int) ((man X / 256 : Nat) : Int) = _
    rw [add_u32 hA (by omega), hCX, cmpt, if_neg hX0, if_pos h23, hdL, ← Int.natCast_add]
    congr 1
    simp only [Nat.reducePow]
    omega
  refine br_f (by rw [hv, cmp_geq hA]; simp; omega) ?_
  conv => cbv
  refine ⟨by decide, ?_⟩
  intro ρ R'' _ _ _
  refine ⟨_, rfl, ?_⟩
  have e4 := shw_u32 hA (x := N) (y := 24) (by decide)
  have e5 : cnv .u32 (ofN N) = (N : Int) := by rw [o]; exact cnv_u32 hA (by omega)
  rw [e5, hv]
  refine (congrArg (fun z => bin .add .u32 z (q : Int)) e4).trans ?_
  show bin .add .u32 ((N * 2 ^ 24 % 4294967296 : Nat) : Int) (q : Int) = _
  rw [add_u32 hA (by omega), hCX, cmpt, if_neg hX0, if_neg h23, hdL, ← Int.natCast_add]
  congr 1
  simp only [Nat.reducePow]
  omega
end Go.Proofs.Ytekoipmmmoofpaa.Co
