/- What a block may make anew, as the program reckons it. -/
import Derived.Test.YtclkimgpdnldnaaTysub
import Derived.Test.YtclkimgpdnldnaaSm
set_option linter.unusedSimpArgs false
set_option linter.unusedVariables false
namespace Go.Proofs.Ytclkimgpdnldnaa.Sub
open Go Go.Se Go.Proofs

/-- What a block may make anew. -/
def sd (h each : Int) : Int := 5000000000 / 2 ^ (h / each).toNat

theorem sd_bd (h each : Int) : 0 ≤ sd h each ∧ sd h each ≤ 5000000000 := by
  unfold sd
  exact ⟨Int.ediv_nonneg (by decide) (Int.pow_nonneg (by decide)), Int.ediv_le_self _ (by decide)⟩

theorem shr64 (x y : Int) (hx : 0 ≤ x) (h : x < 2 ^ 64) : x.fdiv (2 ^ min y.toNat 64) = x / 2 ^ y.toNat := by
  rw [Int.fdiv_eq_ediv_of_nonneg _ (Int.pow_nonneg (by decide))]
  rcases Nat.le_total y.toNat 64 with h1 | h1
  · rw [Nat.min_eq_left h1]
  · rw [Nat.min_eq_right h1, Int.ediv_eq_zero_of_lt hx h]
    refine (Int.ediv_eq_zero_of_lt hx (Int.lt_of_lt_of_le h ?_)).symm
    have : (2 : Nat) ^ 64 ≤ 2 ^ y.toNat := Nat.pow_le_pow_right (by decide) h1
    exact_mod_cast this

set_option maxRecDepth 100000 in
theorem sub13 {P : Program} (hP : P = Try.prog) (h each : Int) (R : RO) (h0 : 0 ≤ h) (h1 : h ≤ 2147483647) (e1 : 1 ≤ each) :
    RetP P 13 [.int .i32 h, .int .i32 each] R fun _ v => ∃ n, v = .int .i64 n ∧ n = sd h each := by
  subst hP
  have hq0 : 0 ≤ h / each := Int.ediv_nonneg h0 (by omega)
  have hq1 : h / each ≤ h := Int.ediv_le_self _ h0
  refine retP_vc Try.func13 rfl (by decide) rfl ok13 ?_
  intro P bin cmp cnv neg com bnot beq ofN toN at_ sub_ scmp cat sget ssz ssub hP hA
  conv => cbv
  refine callP_in hP hA Try.func44 rfl (by decide) rfl ok44 (by simp [labL, lab]) ?_
  conv => cbv
  refine br_f (by rw [cmp_eql hA]; simp; omega) ?_
  conv => cbv
  have q := quo_i32 hA (x := h) (y := each) h0 (by omega) (by omega)
  have c := cnv_u64 hA (x := h / each) (by omega)
  refine ⟨by omega, ⟨by rw [q, c]; omega, ?_⟩⟩
  intro ρ R'' _ _
  refine ⟨_, rfl, ?_⟩
  rw [q, c, bin_ hA]
  exact shr64 5000000000 (h / each) (by decide) (by decide)
end Go.Proofs.Ytclkimgpdnldnaa.Sub
