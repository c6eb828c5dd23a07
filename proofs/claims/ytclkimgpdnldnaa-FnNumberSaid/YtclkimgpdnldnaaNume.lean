/- The law FnNumber, by its body. -/
import Derived.Test.YtclkimgpdnldnaaNumd
set_option linter.unusedSimpArgs false
set_option linter.unusedVariables false
namespace Go.Proofs.Ytclkimgpdnldnaa.Num
open Go Go.Se Go.Proofs

set_option maxRecDepth 100000 in
theorem num_bad {P : Program} (hP : P = Try.prog) (R : RO) (a : Option Addr) (n cap : Nat) (xs : List Int) (hx : RI R .u8 a n xs) (m : Bool) (most : Int) (hn : n ≤ 100000) (hb : most < n ∨ (n ≤ most ∧ m = true ∧ ¬ short xs)) :
    RetP P 21 [.slice a n cap, .bool m, .int .i64 most] R fun _ v => ∃ k, v = .tuple #[.int .i64 0, .int .i64 k] ∧ k ≠ 0 := by
  subst hP
  have key : ∀ (P : Program), P = Try.prog → RetP P 54 [.slice a n cap, .bool m, .int .i64 most] R fun _ v => ∃ e, v = .tuple #[.int .i64 0, e] ∧ ∃ c, 0 ≤ c ∧ c ≤ 100 ∧ isErr c e := by
    intro P hP
    rcases hb with h | ⟨h, rfl, hs⟩
    · exact (impl_long hP R a n cap m most hn h).mono fun _ _ _ ⟨e, h1, h2⟩ => ⟨e, h1, 19, by decide, by decide, h2⟩
    · exact (impl_min hP R a n cap xs hx most hn h hs).mono fun _ _ _ ⟨e, h1, h2⟩ => ⟨e, h1, 30, by decide, by decide, h2⟩
  refine retP_vc Try.func21 rfl (by decide) rfl ok21 ?_
  intro P bin cmp cnv neg com bnot beq ofN toN at_ sub_ scmp cat sget ssz ssub elem fld_ hP hA
  conv => cbv
  refine (key P hP).callP rfl ?_
  rintro R1 _ _ ⟨_, rfl, c, c0, c1, d, rfl⟩
  conv => cbv
  refine callP_in hP hA Try.func55 rfl (by decide) rfl ok55 (by simp [labL, lab]) ?_
  conv => cbv
  intro ρ R'' _ _
  refine ⟨_, rfl, ?_⟩
  rw [add_i64 hA (by omega)]
  omega

set_option maxRecDepth 100000 in
theorem num_ok {P : Program} (hP : P = Try.prog) (R : RO) (a : Option Addr) (n cap : Nat) (xs : List Int) (hx : RI R .u8 a n xs) (m : Bool) (most : Int) (hn : n ≤ 8) (h : n ≤ most) (hs : m = true → short xs) :
    RetP P 21 [.slice a n cap, .bool m, .int .i64 most] R fun _ v => ∃ x, v = .tuple #[.int .i64 x, .int .i64 0] ∧ x = sval xs := by
  subst hP
  refine retP_vc Try.func21 rfl (by decide) rfl ok21 ?_
  intro P bin cmp cnv neg com bnot beq ofN toN at_ sub_ scmp cat sget ssz ssub elem fld_ hP hA
  conv => cbv
  refine (impl_ok hP R a n cap xs hx m most hn h hs).callP rfl ?_
  rintro R1 _ _ ⟨x, rfl, hx⟩
  conv => cbv
  refine callP_in hP hA Try.func55 rfl (by decide) rfl ok55 (by simp [labL, lab]) ?_
  conv => cbv
  intro ρ R'' _ _
  exact ⟨_, rfl, hx⟩

set_option maxRecDepth 100000 in
theorem law_all (R : RO) (a : Option Addr) (n cap : Nat) (xs : List Int) (hx : RI R .u8 a n xs) (hn : n ≤ 9223372036854775807) (m : Bool) (limit : Int) (_ : (Lit.int .i64 limit).wf = true) :
    RetP Try.prog 6 [.slice a n cap, .bool m, .int .i64 limit] R fun _ v => v = .bool true := by
  refine retP_vc Try.func6 rfl (by decide) rfl ok6 ?_
  intro P bin cmp cnv neg com bnot beq ofN toN at_ sub_ scmp cat sget ssz ssub elem fld_ hP hA
  conv => cbv
  have o := ofN_ hA n
  by_cases x0 : 2147483647 < n
  · refine br_t (by rw [o, cmp_gtr hA]; simp; omega) ?_
    conv => cbv
    intro ρ R'' _ _
    rfl
  refine br_f (by rw [o, cmp_gtr hA]; simp; omega) ?_
  conv => cbv
  by_cases x1 : limit < 0
  · have c1 : cmp .lss limit 0 = true := by rw [cmp_lss hA]; simp; omega
    simp only [c1]
    conv => cbv
    intro ρ R'' _ _
    rfl
  have c1 : cmp .lss limit 0 = false := by rw [cmp_lss hA]; simp; omega
  simp only [c1]
  conv => cbv
  by_cases x2 : 8 < limit
  · have c2 : cmp .gtr limit 8 = true := by rw [cmp_gtr hA]; simp; omega
    simp only [c2]
    conv => cbv
    intro ρ R'' _ _
    rfl
  have c2 : cmp .gtr limit 8 = false := by rw [cmp_gtr hA]; simp; omega
  simp only [c2]
  conv => cbv
  by_cases x3 : 100000 < n
  · have c3 : cmp .gtr (ofN n) 100000 = true := by rw [o, cmp_gtr hA]; simp; omega
    simp only [c3]
    conv => cbv
    intro ρ R'' _ _
    rfl
  have c3 : cmp .gtr (ofN n) 100000 = false := by rw [o, cmp_gtr hA]; simp; omega
  simp only [c3]
  conv => cbv
  by_cases x4 : limit < n
  · refine (spec_long hP R a n cap m limit (by omega) x4).callP rfl ?_
    rintro R1 _ hR1 rfl
    conv => cbv
    refine (num_bad hP R1 a n cap xs (hx.le hR1) m limit (by omega) (.inl x4)).callP rfl ?_
    rintro R2 _ _ ⟨k, rfl, hk⟩
    conv => cbv
    intro ρ R'' _ _
    show Value.bool (cmp .neq k 0) = _
    rw [cmp_neq hA]
    simp [hk]
  by_cases x5 : m = true ∧ ¬ short xs
  · obtain ⟨rfl, hs⟩ := x5
    refine (spec_min hP R a n cap xs hx limit (by omega) (by omega) hs).callP rfl ?_
    rintro R1 _ hR1 rfl
    conv => cbv
    refine (num_bad hP R1 a n cap xs (hx.le hR1) true limit (by omega) (.inr ⟨by omega, rfl, hs⟩)).callP rfl ?_
    rintro R2 _ _ ⟨k, rfl, hk⟩
    conv => cbv
    intro ρ R'' _ _
    show Value.bool (cmp .neq k 0) = _
    rw [cmp_neq hA]
    simp [hk]
  · have hs : m = true → short xs := fun hm => Classical.byContradiction fun hns => x5 ⟨hm, hns⟩
    refine (spec_ok hP R a n cap xs hx m limit (by omega) (by omega) hs).callP rfl ?_
    rintro R1 _ hR1 ⟨x, rfl, hxs⟩
    conv => cbv
    refine (num_ok hP R1 a n cap xs (hx.le hR1) m limit (by omega) (by omega) hs).callP rfl ?_
    rintro R2 _ _ ⟨y, rfl, hys⟩
    conv => cbv
    have c4 : cmp .eql (0 : Int) 0 = true := by rw [cmp_eql hA]; rfl
    simp only [c4]
    conv => cbv
    intro ρ R'' _ _
    show Value.bool (cmp .eql y x) = _
    rw [cmp_eql hA, hxs, hys]
    simp
end Go.Proofs.Ytclkimgpdnldnaa.Num
