/- The law FnSubsidyHalves, by its body. -/
import Derived.Test.YtclkimgpdnldnaaSub
set_option linter.unusedSimpArgs false
set_option linter.unusedVariables false
namespace Go.Proofs.Ytclkimgpdnldnaa.Sub
open Go Go.Se Go.Proofs

theorem sd_half (h each : Int) (h0 : 0 ≤ h) (e1 : 1 ≤ each) : sd (h + each) each = sd h each / 2 := by
  unfold sd
  rw [show h + each = h + 1 * each by omega, Int.add_mul_ediv_right _ _ (by omega)]
  have hq := Int.ediv_nonneg h0 (show (0 : Int) ≤ each by omega)
  rw [show (h / each + 1).toNat = (h / each).toNat + 1 by omega, Int.pow_succ, ← Int.ediv_ediv_of_nonneg (Int.pow_nonneg (by decide))]

theorem sd_at (i : Nat) (each : Int) (e1 : 1 ≤ each) : sd (i * each) each = 5000000000 / 2 ^ i := by
  unfold sd
  rw [Int.mul_ediv_cancel _ (by omega)]
  simp

/-- What all blocks together make, each step of the halving once. -/
def tot : Nat → Int
  | 0 => 0
  | i + 1 => tot i + 5000000000 / 2 ^ i

theorem tot_bd : ∀ i, 0 ≤ tot i ∧ tot i ≤ 5000000000 * i
  | 0 => by decide
  | i + 1 => by
    obtain ⟨a, b⟩ := tot_bd i
    have h1 : (0 : Int) ≤ 5000000000 / 2 ^ i := Int.ediv_nonneg (by decide) (Int.pow_nonneg (by decide))
    have h2 : (5000000000 : Int) / 2 ^ i ≤ 5000000000 := Int.ediv_le_self _ (by decide)
    simp only [tot]
    omega

theorem tot_all : 1 ≤ tot 64 ∧ tot 64 ≤ 9999999999 := by decide

set_option maxRecDepth 100000 in
theorem law_in (h each : Int) (R : RO) (h0 : 0 ≤ h) (h1 : h ≤ 1073741824) (e1 : 1 ≤ each) (e2 : each ≤ 210000) :
    RetP Try.prog 3 [.int .i32 h, .int .i32 each] R fun _ v => v = .bool true := by
  refine retP_vc Try.func3 rfl (by decide) rfl ok3 ?_
  intro P bin cmp cnv neg com bnot beq ofN toN at_ sub_ scmp cat sget ssz ssub hP hA
  conv => cbv
  have c1 : cmp .lss h 0 = false := by rw [cmp_lss hA]; simp; omega
  have c2 : cmp .lss each 1 = false := by rw [cmp_lss hA]; simp; omega
  have c3 : cmp .gtr each 210000 = false := by rw [cmp_gtr hA]; simp; omega
  have c4 : cmp .gtr h 1073741824 = false := by rw [cmp_gtr hA]; simp; omega
  simp only [c1]
  conv => cbv
  simp only [c2]
  conv => cbv
  simp only [c3]
  conv => cbv
  simp only [c4]
  conv => cbv
  have ad : bin .add .i32 h each = h + each := add_i32 hA (by omega)
  refine (sub13 hP _ each R (by rw [ad]; omega) (by rw [ad]; omega) e1).callP rfl ?_
  rintro R1 _ _ ⟨n1, rfl, hn1⟩
  rw [ad] at hn1
  conv => cbv
  refine (sub13 hP h each R1 h0 (by omega) e1).callP rfl ?_
  rintro R2 _ _ ⟨n2, rfl, hn2⟩
  conv => cbv
  obtain ⟨s1, s2⟩ := sd_bd h each
  refine ⟨by decide, ?_⟩
  refine br_f (by rw [quo_i64 hA (x := n2) (y := 2) (by omega) (by omega) (by decide), cmp_neq hA, hn1, hn2, sd_half h each h0 e1]; simp) ?_
  conv => cbv
  refine ⟨Int × Int × RO, fun x => ⟨[(6, .v (.int .i32 x.1)), (5, .v (.int .i64 x.2.1)), (1, .v (.int .i32 each)), (4, .v (.bool false))], x.2.2, [], 0⟩,
    fun n x => ∃ i : Nat, x.1 = i ∧ i ≤ 64 ∧ n = 64 - i ∧ x.2.1 = each * tot i, ⟨64, (0, 0, R2), ⟨⟨rfl, rfl, rfl, rfl, trivial⟩, rfl, trivial, rfl⟩, 0, rfl, by decide, rfl, by simp [tot]⟩, ?_⟩
  rintro n ⟨j, t, R3⟩ ⟨i, hj, hi, hn, ht⟩
  simp only at hj ht
  conv => cbv
  have hje : 0 ≤ j * each := Int.mul_nonneg (by omega) (by omega)
  have hjm : j * each ≤ 64 * 210000 := Int.mul_le_mul (by omega) e2 (by omega) (by decide)
  obtain ⟨tb1, tb2⟩ := tot_bd i
  have ht0 : 0 ≤ t := by rw [ht]; exact Int.mul_nonneg (by omega) tb1
  have ht1 : t ≤ 210000 * 320000000000 := by rw [ht]; exact Int.mul_le_mul e2 (by omega) tb1 (by decide)
  by_cases hlt : j < 64
  · refine br_t (by rw [cmp_lss hA]; simp; omega) ?_
    conv => cbv
    have mu := mul_i32 hA (x := j) (y := each) (by omega)
    refine (sub13 hP _ each R3 (by rw [mu]; omega) (by rw [mu]; omega) e1).callP rfl ?_
    rintro R4 _ _ ⟨n3, rfl, hn3⟩
    rw [mu, hj, sd_at i each e1] at hn3
    conv => cbv
    obtain ⟨s3, s4⟩ := sd_bd (i * each) each
    rw [sd_at i each e1, ← hn3] at s3 s4
    have hm1 : 0 ≤ each * n3 := Int.mul_nonneg (by omega) s3
    have hm2 : each * n3 ≤ 210000 * 5000000000 := Int.mul_le_mul e2 s4 s3 (by decide)
    have a1 := add_i32 hA (x := j) (y := 1) (by omega)
    have a2 := cnv_i64 hA (x := each) (by omega)
    have a3 := mul_i64 hA (x := each) (y := n3) (by omega)
    have a4 := add_i64 hA (x := t) (y := each * n3) (by omega)
    refine ⟨64 - (i + 1), (j + 1, t + each * n3, R4), by omega, ⟨⟨?_, ?_, rfl, rfl, trivial⟩, rfl, trivial, rfl⟩, i + 1, ?_, by omega, rfl, ?_⟩
    · rw [a1]; rfl
    · rw [a2, a3, a4]; rfl
    · show j + 1 = ((i + 1 : Nat) : Int); omega
    · show t + each * n3 = each * tot (i + 1); simp only [tot, ht, hn3, Int.mul_add]
  · refine br_f (by rw [cmp_lss hA]; simp; omega) ?_
    conv => cbv
    obtain rfl : i = 64 := by omega
    obtain ⟨z1, z2⟩ := tot_all
    have z3 : 1 ≤ t := by
      rw [ht]
      have : 1 * 1 ≤ each * tot 64 := Int.mul_le_mul e1 z1 (by decide) (by omega)
      omega
    have z4 : t ≤ 210000 * 9999999999 := by rw [ht]; exact Int.mul_le_mul e2 z2 (by omega) (by decide)
    have d1 : cmp .gtr t 0 = true := by rw [cmp_gtr hA]; simp; omega
    have d2 : cmp .lss t 2100000000000000 = true := by rw [cmp_lss hA]; simp; omega
    simp only [d1]
    conv => cbv
    simp only [d2]
    intro ρ R'' _ _
    rfl

set_option maxRecDepth 100000 in
theorem law_out (h each : Int) (R : RO) (ho : h < 0 ∨ each < 1 ∨ 210000 < each ∨ 1073741824 < h) :
    RetP Try.prog 3 [.int .i32 h, .int .i32 each] R fun _ v => v = .bool true := by
  refine retP_vc Try.func3 rfl (by decide) rfl ok3 ?_
  intro P bin cmp cnv neg com bnot beq ofN toN at_ sub_ scmp cat sget ssz ssub hP hA
  conv => cbv
  by_cases x1 : h < 0
  · have c1 : cmp .lss h 0 = true := by rw [cmp_lss hA]; simp; omega
    simp only [c1]
    conv => cbv
    intro ρ R'' _ _
    rfl
  have c1 : cmp .lss h 0 = false := by rw [cmp_lss hA]; simp; omega
  simp only [c1]
  conv => cbv
  by_cases x2 : each < 1
  · have c2 : cmp .lss each 1 = true := by rw [cmp_lss hA]; simp; omega
    simp only [c2]
    conv => cbv
    intro ρ R'' _ _
    rfl
  have c2 : cmp .lss each 1 = false := by rw [cmp_lss hA]; simp; omega
  simp only [c2]
  conv => cbv
  by_cases x3 : 210000 < each
  · have c3 : cmp .gtr each 210000 = true := by rw [cmp_gtr hA]; simp; omega
    simp only [c3]
    conv => cbv
    intro ρ R'' _ _
    rfl
  have c3 : cmp .gtr each 210000 = false := by rw [cmp_gtr hA]; simp; omega
  simp only [c3]
  conv => cbv
  have c4 : cmp .gtr h 1073741824 = true := by rw [cmp_gtr hA]; simp; omega
  simp only [c4]
  conv => cbv
  intro ρ R'' _ _
  rfl

theorem law_all (h each : Int) (R : RO) : RetP Try.prog 3 [.int .i32 h, .int .i32 each] R fun _ v => v = .bool true := by
  by_cases ho : h < 0 ∨ each < 1 ∨ 210000 < each ∨ 1073741824 < h
  · exact law_out h each R ho
  · exact law_in h each R (by omega) (by omega) (by omega) (by omega)
end Go.Proofs.Ytclkimgpdnldnaa.Sub
