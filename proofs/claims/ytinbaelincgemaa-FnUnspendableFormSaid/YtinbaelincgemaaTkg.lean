/- Which scripts are unspendable: the law. -/
import Derived.Test.YtinbaelincgemaaTkf
import Derived.Test.YtinbaelincgemaaTko
set_option linter.unusedSimpArgs false
set_option linter.unusedVariables false
namespace Go.Proofs.Ytinbaelincgemaa.Tk
open Go Go.Se Go.Proofs Go.Proofs.Ytinbaelincgemaa.Tytok

theorem opSpec : OpSpec Try.prog := fun R x h0 h1 => opcodeOf rfl R x h0 h1



set_option maxRecDepth 100000 in
theorem law5 (R : RO) (a : Option Addr) (n c : Nat) (xs : List Int) (h : RI R .u8 a n xs) (hmx : n ≤ 9223372036854775807) (hc : n ≤ c) : RetP Try.prog 5 [.slice a n c] R fun _ v => v = .bool true := by
  have hl := h.len
  refine retP_vc (fz := []) Try.func5 rfl (by decide) rfl ok5 ?_
  intro P bin cmp cnv neg com bnot beq ofN toN at_ sub_ scmp cat sget ssz ssub elem fld_ hP hA
  conv => cbv
  have o := ofN_ hA n
  by_cases h1 : n > 2147483647
  · refine br_t (by rw [o, cmp_gtr hA]; simp; omega) ?_
    conv => cbv
    intro ρ R'' _ _ _
    rfl
  refine br_f (by rw [o, cmp_gtr hA]; simp; omega) ?_
  conv => cbv
  by_cases h2 : n > 100000
  · refine br_t (by rw [o, cmp_gtr hA]; simp; omega) ?_
    conv => cbv
    intro ρ R'' _ _ _
    rfl
  refine br_f (by rw [o, cmp_gtr hA]; simp; omega) ?_
  conv => cbv
  by_cases h3 : n > 10000
  · have d1 : cmp .gtr (ofN n) 10000 = true := by rw [o, cmp_gtr hA]; simp; omega
    simp only [d1]
    conv => cbv
    refine (unsThin hP opSpec R a n c xs h (by omega) hc).callQ rfl ?_
    rintro _ ⟨r, rfl, hr⟩
    conv => cbv
    intro ρ R'' _ _ _
    show Value.bool (beq r _) = .bool true
    rw [beq_ hA, hr.2 (.inr (.inl (by omega)))]
    rfl
  have d1 : cmp .gtr (ofN n) 10000 = false := by rw [o, cmp_gtr hA]; simp; omega
  simp only [d1]
  conv => cbv
  refine (whole hP R a n c xs h (by omega) hc).callQ rfl ?_
  rintro _ ⟨w, rfl, hw⟩
  conv => cbv
  have bn := bnot_ hA w
  cases w with
  | false =>
    have hbn : bnot false = true := bn
    simp only [hbn]
    conv => cbv
    refine (unsThin hP opSpec R a n c xs h (by omega) hc).callQ rfl ?_
    rintro _ ⟨r, rfl, hr⟩
    conv => cbv
    intro ρ R'' _ _ _
    show Value.bool (beq r _) = .bool true
    rw [beq_ hA, hr.2 (.inr (.inr fun hx => by have := hw.2 hx; cases this))]
    rfl
  | true =>
    have hbn : bnot true = false := bn
    simp only [hbn]
    conv => cbv
    have hwx : Wh xs := hw.1 rfl
    by_cases h4 : 0 < n
    · have d2 : cmp .gtr (ofN n) 0 = true := by rw [o, cmp_gtr hA]; simp; omega
      simp only [d2]
      conv => cbv
      refine ix_u8 hA h 0 rfl (by omega) ?_
      refine ld_u8 hA h (by omega) (by omega) ?_
      intro b hb b0 b1
      have hb' : b = xs.getD 0 0 := hb
      conv => cbv
      refine (unsThin hP opSpec R a n c xs h (by omega) hc).callQ rfl ?_
      rintro _ ⟨r, rfl, hr⟩
      conv => cbv
      intro ρ R'' _ _ _
      show Value.bool (beq r _) = .bool true
      rw [beq_ hA, cmp_eql hA]
      have : r = (b == 106) := by
        rw [Bool.eq_iff_iff, hr]
        constructor
        · rintro (⟨_, hu⟩ | hu | hu)
          · simp; omega
          · omega
          · exact absurd hwx hu
        · intro he
          exact .inl ⟨by omega, by simp at he; omega⟩
      rw [this]
      simp
    · have d2 : cmp .gtr (ofN n) 0 = false := by rw [o, cmp_gtr hA]; simp; omega
      simp only [d2]
      conv => cbv
      refine (unsThin hP opSpec R a n c xs h (by omega) hc).callQ rfl ?_
      rintro _ ⟨r, rfl, hr⟩
      conv => cbv
      intro ρ R'' _ _ _
      show Value.bool (beq r _) = .bool true
      have : r = false := by
        cases r with
        | false => rfl
        | true =>
          rcases hr.1 rfl with ⟨hu, _⟩ | hu | hu
          · omega
          · omega
          · exact absurd hwx hu
      rw [beq_ hA, this]
      rfl
end Go.Proofs.Ytinbaelincgemaa.Tk
