/- Numbers of scripts: the program's reading of a number; the law. -/
import Derived.Test.YtclkimgpdnldnaaNumc
set_option linter.unusedSimpArgs false
set_option linter.unusedVariables false
namespace Go.Proofs.Ytclkimgpdnldnaa.Num
open Go Go.Se Go.Proofs

set_option maxRecDepth 100000 in
theorem impl_ok {P : Program} (hP : P = Try.prog) (R : RO) (a : Option Addr) (n cap : Nat) (xs : List Int) (hx : RI R .u8 a n xs) (m : Bool) (most : Int) (hn : n ≤ 8) (h : n ≤ most) (hs : m = true → short xs) :
    RetP P 54 [.slice a n cap, .bool m, .int .i64 most] R fun _ v => ∃ x, v = .tuple #[.int .i64 x, .nilIface] ∧ x = sval xs := by
  subst hP
  have hl := hx.len
  have hby := bytes_of hx
  refine retP_vc Try.func54 rfl (by decide) rfl ok54 ?_
  intro P bin cmp cnv neg com bnot beq ofN toN at_ sub_ scmp cat sget ssz ssub elem fld_ hP hA
  conv => cbv
  have o := ofN_ hA n
  refine br_f (by rw [o, cmp_gtr hA]; simp; omega) ?_
  conv => cbv
  cases m
  all_goals conv => cbv
  rotate_left
  refine (chk_any hP R a n cap xs hx (by omega)).callP rfl ?_
  rintro R1 v hR1 ⟨hv, _⟩
  obtain rfl := hv (hs rfl)
  conv => cbv
  refine br_f (by rw [bnot_ hA]; rfl) ?_
  conv => cbv
  replace hx := hx.le hR1
  all_goals
    by_cases h0 : n = 0
    · refine br_t (by rw [o, cmp_eql hA]; simp; omega) ?_
      conv => cbv
      intro ρ R'' _ _
      refine ⟨_, rfl, ?_⟩
      have : xs = [] := List.eq_nil_of_length_eq_zero (by omega)
      rw [this]
      rfl
    refine br_f (by rw [o, cmp_eql hA]; simp; omega) ?_
    conv => cbv
    have s1 : bin .sub .i64 (ofN n) 1 = n - 1 := by rw [o]; exact sub_i64 hA (by omega)
    refine ⟨Int × Int, fun x => ⟨[(31, .v (.int .i64 x.1)), (30, .v (.int .i64 (ofN n))), (29, .v (.slice a n cap)), (10, .v (.int .i64 x.2)), (0, .v (.slice a n cap))], _, [], 0⟩,
      fun k x => ∃ i : Nat, x.1 = i ∧ i ≤ n ∧ k = n - i ∧ x.2 = IntKind.i64.wrap (le (xs.take i)), ⟨n, (0, 0), ⟨⟨rfl, rfl, rfl, rfl, rfl, trivial⟩, rfl, trivial, rfl⟩, 0, rfl, Nat.zero_le _, rfl, rfl⟩, ?_⟩
    rintro k ⟨j, acc⟩ ⟨i, hj, hi, hk, hacc⟩
    simp only at hj hacc
    conv => cbv
    by_cases hin : i < n
    · refine br_t (by rw [cmp_lss hA, o]; simp; omega) ?_
      conv => cbv
      refine ix_u8 hA hx i hj hin ?_
      refine ld_u8 hA hx (by omega) (by omega) ?_
      intro c hc c0 c1
      rw [hj, show ((i : Int)).toNat = i by omega] at hc
      conv => cbv
      have a1 := cnv_i64 hA (x := c) (by omega)
      have a2 := mul_i64 hA (x := 8) (y := j) (by omega)
      have a3 := cnv_u8 hA (x := 8 * j) (by omega)
      have a4 := add_i64 hA (x := j) (y := 1) (by omega)
      have a5 := step64 (bin_is hA) hby (i := i) (by omega) (by omega) hc c0 c1
      refine ⟨by rw [a2, a3]; omega, n - (i + 1), (j + 1, IntKind.i64.wrap (le (xs.take (i + 1)))), by omega, ⟨⟨?_, rfl, rfl, ?_, rfl, trivial⟩, rfl, trivial, rfl⟩, i + 1, ?_, by omega, rfl, rfl⟩
      · rw [a4]; rfl
      · rw [a1, a2, a3, hacc, hj, a5]; rfl
      · show j + 1 = ((i + 1 : Nat) : Int); omega
    · refine br_f (by rw [cmp_lss hA, o]; simp; omega) ?_
      conv => cbv
      refine ix_u8 hA hx (n - 1) (by rw [s1]; omega) (by omega) ?_
      refine ld_u8 hA hx (by rw [s1]; omega) (by rw [s1]; omega) ?_
      intro c hc c0 c1
      rw [s1, show ((n : Int) - 1).toNat = n - 1 by omega, last_of hl] at hc
      conv => cbv
      have a1 := and128_u8 (bin_is hA) c c0 c1
      have hxs : xs.take i = xs := List.take_of_length_le (by omega)
      rw [hxs] at hacc
      by_cases hc8 : 128 ≤ c
      · rw [if_pos hc8] at a1
        refine br_t (by rw [a1, cmp_neq hA]; rfl) ?_
        conv => cbv
        have a2 := mul_i64 hA (x := 8) (y := (n : Int) - 1) (by omega)
        have a3 := cnv_u8 hA (x := 8 * ((n : Int) - 1)) (by omega)
        have a4 := sign64 (bin_is hA) (com_is hA) hby (by omega) (by omega) (by omega) (by omega)
        have hh := low_top hby (by omega) (by omega)
        obtain ⟨l0, _⟩ := le_bd _ (low_bytes hby)
        refine ⟨by rw [s1, a2, a3]; omega, ?_⟩
        intro ρ R'' _ _
        refine ⟨_, rfl, ?_⟩
        rw [s1, a2, a3, hacc, show (8 * ((n : Int) - 1)) = 8 * ((xs.length - 1 : Nat) : Int) by omega, a4, neg_ hA, w_i64 (by omega)]
        unfold sval
        rw [← hc, if_pos hc8]
        omega
      · rw [if_neg hc8] at a1
        refine br_f (by rw [a1, cmp_neq hA]; rfl) ?_
        conv => cbv
        intro ρ R'' _ _
        refine ⟨_, rfl, ?_⟩
        obtain ⟨e1, e2⟩ := low_half hby (by omega)
        have hh := low_top hby (by omega) (by omega)
        obtain ⟨l0, _⟩ := le_bd _ (low_bytes hby)
        rw [show last xs - last xs % 128 = 0 by omega] at e2
        unfold sval
        rw [← hc, if_neg hc8, hacc, w_i64 (by omega)]
        omega
end Go.Proofs.Ytclkimgpdnldnaa.Num
