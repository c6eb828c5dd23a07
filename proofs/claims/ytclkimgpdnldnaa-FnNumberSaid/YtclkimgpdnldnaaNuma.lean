/- Numbers of scripts: is one written as short as can be. -/
import Derived.Test.YtclkimgpdnldnaaTynum
import Derived.Test.YtclkimgpdnldnaaNump
set_option linter.unusedSimpArgs false
set_option linter.unusedVariables false
namespace Go.Proofs.Ytclkimgpdnldnaa.Num
open Go Go.Se Go.Proofs

theorem last_of {xs : List Int} {n : Nat} (h : n = xs.length) : xs.getD (n - 1) 0 = last xs := by rw [h]; rfl

set_option maxRecDepth 100000 in
theorem short_any {P : Program} (hP : P = Try.prog) (R : RO) (a : Option Addr) (n cap : Nat) (xs : List Int) (h : RI R .u8 a n xs) (hn : n ≤ 100000) :
    RetP P 53 [.slice a n cap] R fun _ v => ∃ b, v = .bool b ∧ (b = true ↔ short xs) := by
  subst hP
  have hl := h.len
  refine retP_vc Try.func53 rfl (by decide) rfl ok53 ?_
  intro P bin cmp cnv neg com bnot beq ofN toN at_ sub_ scmp cat sget ssz ssub elem fld_ hP hA
  conv => cbv
  have o := ofN_ hA n
  by_cases h0 : n = 0
  · refine br_t (by rw [o, cmp_eql hA]; simp; omega) ?_
    conv => cbv
    intro ρ R'' _ _
    exact ⟨_, rfl, by simp [short]; left; exact List.eq_nil_of_length_eq_zero (by omega)⟩
  refine br_f (by rw [o, cmp_eql hA]; simp; omega) ?_
  conv => cbv
  have s1 : bin .sub .i64 (ofN n) 1 = n - 1 := by rw [o]; exact sub_i64 hA (by omega)
  refine ix_u8 hA h (n - 1) (by rw [s1]; omega) (by omega) ?_
  refine ld_u8 hA h (by rw [s1]; omega) (by rw [s1]; omega) ?_
  intro c hc c0 c1
  rw [s1, show ((n : Int) - 1).toNat = n - 1 by omega, last_of hl] at hc
  conv => cbv
  have a1 := and127_u8 (bin_is hA) c c0 c1
  by_cases h1 : c % 128 = 0
  · refine br_f (by rw [a1, cmp_neq hA, h1]; rfl) ?_
    conv => cbv
    by_cases h2 : n = 1
    · have g1 : cmp .gtr (ofN n) 1 = false := by rw [o, cmp_gtr hA]; simp; omega
      simp only [g1]
      conv => cbv
      intro ρ R'' _ _
      refine ⟨_, rfl, ?_⟩
      simp only [short, Bool.false_eq_true, false_iff]
      rintro (hx | hx | ⟨hx, _⟩)
      · rw [hx] at hl; simp at hl; omega
      · rw [← hc] at hx; exact hx h1
      · omega
    · have g1 : cmp .gtr (ofN n) 1 = true := by rw [o, cmp_gtr hA]; simp; omega
      simp only [g1]
      conv => cbv
      have s2 : bin .sub .i64 (ofN n) 2 = n - 2 := by rw [o]; exact sub_i64 hA (by omega)
      refine ix_u8 hA h (n - 2) (by rw [s2]; omega) (by omega) ?_
      refine ld_u8 hA h (by rw [s2]; omega) (by rw [s2]; omega) ?_
      intro d hd d0 d1
      rw [s2, show ((n : Int) - 2).toNat = n - 2 by omega, hl] at hd
      conv => cbv
      intro ρ R'' _ _
      refine ⟨_, rfl, ?_⟩
      rw [cmp_neq hA, and128_u8 (bin_is hA) d d0 d1]
      simp only [short]
      rw [← hd, ← hc]
      by_cases h3 : 128 ≤ d
      · simp [h3, h1]; right; omega
      · simp [h3, h1]; intro hx; rw [hx] at hl; simp at hl; omega
  · refine br_t (by rw [a1, cmp_neq hA]; simp [h1]) ?_
    conv => cbv
    intro ρ R'' _ _
    refine ⟨_, rfl, ?_⟩
    simp only [short, true_iff]
    rw [← hc]
    exact .inr (.inl h1)
end Go.Proofs.Ytclkimgpdnldnaa.Num
