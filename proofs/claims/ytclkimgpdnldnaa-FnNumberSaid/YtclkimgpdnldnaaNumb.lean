/- Numbers of scripts: the reference's reading. -/
import Derived.Test.YtclkimgpdnldnaaNuma
set_option linter.unusedSimpArgs false
set_option linter.unusedVariables false
namespace Go.Proofs.Ytclkimgpdnldnaa.Num
open Go Go.Se Go.Proofs

set_option maxRecDepth 100000 in
theorem spec_long {P : Program} (hP : P = Try.prog) (R : RO) (a : Option Addr) (n cap : Nat) (m : Bool) (most : Int) (hn : n ≤ 100000) (h : most < n) :
    RetP P 20 [.slice a n cap, .bool m, .int .i64 most] R fun _ v => v = .tuple #[.int .i64 0, .bool true, .bool false] := by
  subst hP
  refine retP_vc Try.func20 rfl (by decide) rfl ok20 ?_
  intro P bin cmp cnv neg com bnot beq ofN toN at_ sub_ scmp cat sget ssz ssub elem fld_ hP hA
  conv => cbv
  have o := ofN_ hA n
  refine br_t (by rw [o, cmp_gtr hA]; simp; omega) ?_
  conv => cbv
  intro ρ R'' _ _
  rfl

set_option maxRecDepth 100000 in
theorem spec_min {P : Program} (hP : P = Try.prog) (R : RO) (a : Option Addr) (n cap : Nat) (xs : List Int) (hx : RI R .u8 a n xs) (most : Int) (hn : n ≤ 100000) (h : n ≤ most) (hs : ¬ short xs) :
    RetP P 20 [.slice a n cap, .bool true, .int .i64 most] R fun _ v => v = .tuple #[.int .i64 0, .bool false, .bool true] := by
  subst hP
  refine retP_vc Try.func20 rfl (by decide) rfl ok20 ?_
  intro P bin cmp cnv neg com bnot beq ofN toN at_ sub_ scmp cat sget ssz ssub elem fld_ hP hA
  conv => cbv
  have o := ofN_ hA n
  refine br_f (by rw [o, cmp_gtr hA]; simp; omega) ?_
  conv => cbv
  refine (short_any hP R a n cap xs hx hn).callP rfl ?_
  rintro R1 _ _ ⟨b, rfl, hb⟩
  obtain rfl : b = false := by cases b <;> simp_all
  conv => cbv
  refine br_t (by rw [bnot_ hA]; rfl) ?_
  conv => cbv
  intro ρ R'' _ _
  rfl

set_option maxRecDepth 100000 in
theorem spec_ok {P : Program} (hP : P = Try.prog) (R : RO) (a : Option Addr) (n cap : Nat) (xs : List Int) (hx : RI R .u8 a n xs) (m : Bool) (most : Int) (hn : n ≤ 8) (h : n ≤ most) (hs : m = true → short xs) :
    RetP P 20 [.slice a n cap, .bool m, .int .i64 most] R fun _ v => ∃ x, v = .tuple #[.int .i64 x, .bool false, .bool false] ∧ x = sval xs := by
  subst hP
  have hl := hx.len
  have hby := bytes_of hx
  refine retP_vc Try.func20 rfl (by decide) rfl ok20 ?_
  intro P bin cmp cnv neg com bnot beq ofN toN at_ sub_ scmp cat sget ssz ssub elem fld_ hP hA
  conv => cbv
  have o := ofN_ hA n
  refine br_f (by rw [o, cmp_gtr hA]; simp; omega) ?_
  cases m
  all_goals conv => cbv
  rotate_left
  refine (short_any hP R a n cap xs hx (by omega)).callP rfl ?_
  rintro R1 _ hR1 ⟨b, rfl, hb⟩
  obtain rfl : b = true := hb.2 (hs rfl)
  conv => cbv
  refine br_f (by rw [bnot_ hA]; rfl) ?_
  conv => cbv
  replace hx := hx.le hR1
  all_goals
    by_cases h0 : n = 0
    · refine br_t (by rw [o, cmp_eql hA]; simp; omega) ?_
      conv => cbv
      intro ρ R'' _ _
      refine ⟨_, rfl, ?_⟩
      have : xs = [] := List.eq_nil_of_length_eq_zero (by omega)
      rw [this]
      rfl
    refine br_f (by rw [o, cmp_eql hA]; simp; omega) ?_
    conv => cbv
    have s1 : bin .sub .i64 (ofN n) 1 = n - 1 := by rw [o]; exact sub_i64 hA (by omega)
    refine ⟨Int × Int, fun x => ⟨[(10, .v (.int .i64 x.1)), (9, .v (.int .u64 x.2)), (0, .v (.slice a n cap))], _, [], 0⟩,
      fun k x => x.1 = k - 1 ∧ k ≤ n ∧ x.2 = le ((low xs).drop k), ⟨n, (bin .sub .i64 (ofN n) 1, 0), ⟨⟨rfl, rfl, rfl, trivial⟩, rfl, trivial, rfl⟩, s1, Nat.le_refl _,
        by show (0 : Int) = _; rw [List.drop_of_length_le (by rw [low_len]; omega)]; rfl⟩, ?_⟩
    rintro k ⟨i, sum⟩ ⟨hi, hk, hsum⟩
    simp only at hi hsum
    obtain ⟨b0, b1⟩ := le_bd _ (drop_bytes (low_bytes hby) k)
    rw [← hsum, List.length_drop, low_len, ← hl] at b1
    rw [← hsum] at b0
    conv => cbv
    by_cases hk0 : k = 0
    · -- the loop has ended
      refine br_f (by rw [cmp_geq hA]; simp; omega) ?_
      conv => cbv
      refine ix_u8 hA hx (n - 1) (by rw [s1]; omega) (by omega) ?_
      refine ld_u8 hA hx (by rw [s1]; omega) (by rw [s1]; omega) ?_
      intro c hc c0 c1
      rw [s1, show ((n : Int) - 1).toNat = n - 1 by omega, last_of hl] at hc
      conv => cbv
      subst hk0
      rw [List.drop_zero] at hsum
      have hb63 : sum < 9223372036854775808 := by rw [hsum]; exact low_top hby (by omega) (by omega)
      have cv := cnv_i64 hA (x := sum) (by omega)
      by_cases hc8 : 128 ≤ c
      · refine br_t (by rw [cmp_geq hA]; simp; omega) ?_
        conv => cbv
        intro ρ R'' _ _
        refine ⟨_, rfl, ?_⟩
        rw [cv, neg_ hA, w_i64 (by omega), hsum]
        unfold sval
        rw [← hc, if_pos hc8]
        omega
      · refine br_f (by rw [cmp_geq hA]; simp; omega) ?_
        conv => cbv
        intro ρ R'' _ _
        refine ⟨_, rfl, ?_⟩
        rw [cv, hsum]
        unfold sval
        rw [← hc, if_neg hc8]
    · refine br_t (by rw [cmp_geq hA]; simp; omega) ?_
      conv => cbv
      refine ix_u8 hA hx (k - 1) (by omega) (by omega) ?_
      refine ld_u8 hA hx (by omega) (by omega) ?_
      intro c hc c0 c1
      rw [hi, show ((k : Int) - 1).toNat = k - 1 by omega] at hc
      conv => cbv
      have hp7 := pow256' (n - k) (by omega)
      have a1 := sub_i64 hA (x := i) (y := 1) (by omega)
      have hnx := low_at (xs := xs) (i := k - 1) (by omega)
      by_cases hkn : k = n
      · refine br_t (by rw [s1, cmp_eql hA]; simp; omega) ?_
        conv => cbv
        have e1 := and127_u8 (bin_is hA) c c0 c1
        rw [e1]
        obtain ⟨d, hd⟩ : ∃ d, d = c % 128 := ⟨_, rfl⟩
        rw [← hd]
        have a2 := shl8 (bin_is hA) (x := sum) b0 (by omega)
        have a3 := cnv_u64 hA (x := d) (by omega)
        have a4 := or256 (bin_is hA) (x := sum) (c := d) b0 (by omega) (by omega) (by omega)
        rw [if_pos (by omega)] at hnx
        have hc2 : last xs = c := by rw [hc, ← last_of hl, hkn]
        rw [hc2, ← hd] at hnx
        have hle := le_drop hnx
        rw [show k - 1 + 1 = k by omega, ← hsum] at hle
        refine ⟨by decide, k - 1, (i - 1, sum * 256 + d), by omega, ⟨⟨?_, ?_, rfl, trivial⟩, rfl, trivial, rfl⟩, ?_, ?_, ?_⟩
        · rw [a1]; rfl
        · rw [a2, a3, a4]; rfl
        · show i - 1 = ((k - 1 : Nat) : Int) - 1; omega
        · show k - 1 ≤ n; omega
        · show sum * 256 + d = le ((low xs).drop (k - 1)); omega
      · refine br_f (by rw [s1, cmp_eql hA]; simp; omega) ?_
        conv => cbv
        have a2 := shl8 (bin_is hA) (x := sum) b0 (by omega)
        have a3 := cnv_u64 hA (x := c) (by omega)
        have a4 := or256 (bin_is hA) (x := sum) (c := c) b0 (by omega) (by omega) (by omega)
        rw [if_neg (by omega), ← hc] at hnx
        have hle := le_drop hnx
        rw [show k - 1 + 1 = k by omega, ← hsum] at hle
        refine ⟨by decide, k - 1, (i - 1, sum * 256 + c), by omega, ⟨⟨?_, ?_, rfl, trivial⟩, rfl, trivial, rfl⟩, ?_, ?_, ?_⟩
        · rw [a1]; rfl
        · rw [a2, a3, a4]; rfl
        · show i - 1 = ((k - 1 : Nat) : Int) - 1; omega
        · show k - 1 ≤ n; omega
        · show sum * 256 + c = le ((low xs).drop (k - 1)); omega
end Go.Proofs.Ytclkimgpdnldnaa.Num
