/- Great numbers: added, multiplied at any size. -/
import Derived.Test.YtepfbdfbfimefaaDoorBfc
import Derived.Test.YtepfbdfbfimefaaDoorSl
import Derived.Test.YtepfbdfbfimefaaDoorProg
import Derived.KernelRfl
-- merged
/- The types that some functions name, as the evaluator wants them. Printed by a program of my own (seatgen.py). -/
namespace Go.Proofs.YtepfbdfbfimefaaDoor.Tyeb
open Go Go.Se Go.Proofs

/-- int -/
def y3 : Ty := ⟨.int .i64, 1, false, .int .i64 0, 8⟩
theorem ty3 : tyOf Tryd.prog 3 = some y3 := by kernel_rfl
/-- uint64 -/
def y33 : Ty := ⟨.int .u64, 1, false, .int .u64 0, 8⟩
theorem ty33 : tyOf Tryd.prog 33 = some y33 := by kernel_rfl
/-- big.nat -/
def y48 : Ty := ⟨.slc 68, 1, false, .slice none 0 0, 24⟩
theorem ty48 : tyOf Tryd.prog 48 = some y48 := by kernel_rfl
/-- uint32 -/
def y68 : Ty := ⟨.int .u32, 1, false, .int .u32 0, 4⟩
theorem ty68 : tyOf Tryd.prog 68 = some y68 := by kernel_rfl

/-- function 51: (pub-mintmark/pub/smallbig.nat).add -/
def tys51 : Nat → Option Ty := fun t => find [(48, y48), (68, y68), (3, y3), (33, y33)] t
theorem ok51 : TysOk Tryd.prog tys51 := tysOk_of ⟨ty48, ty68, ty3, ty33, trivial⟩
end Go.Proofs.YtepfbdfbfimefaaDoor.Tyeb
set_option linter.unusedSimpArgs false
set_option linter.unusedVariables false
namespace Go.Proofs.YtepfbdfbfimefaaDoor.Bf
open Go Go.Se Go.Proofs Go.Proofs.YtepfbdfbfimefaaDoor.Co Go.Proofs.YtepfbdfbfimefaaDoor.Tyeb

theorem pw_split (T i : Nat) : T % 4294967296 * 4294967296 ^ i + T / 4294967296 * 4294967296 ^ (i + 1) = T * 4294967296 ^ i := by
  rw [Nat.pow_succ, Nat.mul_comm (4294967296 ^ i) 4294967296, ← Nat.mul_assoc, ← Nat.add_mul]
  congr 1
  omega

structure Lad where
  i : Int
  q : Int
  zs : List Value



set_option maxRecDepth 100000 in
set_option maxHeartbeats 4000000 in
theorem addP {P : Program} (hP : P = Tryd.prog) (R : RO) (a b : Option Addr) (n c k e X Y : Nat) (h : RI R .u32 a n (cn X)) (hn : n ≤ 10000) (h2 : RI R .u32 b k (cn Y)) (hk : k ≤ 10000) :
    RetP P 51 [.slice a n c, .slice b k e] R fun R' r => ∃ a' n' c', r = .slice a' n' c' ∧ RI R' .u32 a' n' (cn (X + Y)) ∧ n' ≤ c' := by
  subst hP
  refine retP_vc (fz := []) Tryd.func51 rfl (by decide) rfl ok51 ?_
  intro P bin cmp cnv neg com bnot beq ofN toN at_ sub_ scmp cat sget ssz ssub elem fld_ hP hA
  conv => cbv
  by_cases hlk : n < k
  · refine br_t (by rw [ofN_ hA n, ofN_ hA k, cmp_lss hA]; simp; omega) ?_
    conv => cbv
    rw [Nat.add_comm X Y]
    have oN := ofN_ hA k
    have oK := ofN_ hA n
    have hlX := (h2).len
    have hlY := (h).len
    have hXn := cn_lt Y
    rw [← hlX] at hXn
    have hYk := cn_lt X
    rw [← hlY] at hYk
    have el : bin .add .i64 (ofN k) 1 = ((k + 1 : Nat) : Int) := by rw [oN, add_i64 hA (by omega)]; rfl
    refine ⟨by rw [el]; omega, by rw [el]; omega, by rw [el]; omega, by rw [el]; omega, ?_⟩
    intro az nz cz z hnz hcz hz
    rw [el] at hnz hcz
    obtain ⟨W, hW⟩ : ∃ W, W = k + 1 := ⟨_, rfl⟩
    obtain rfl : W = nz := by omega
    obtain rfl : W = cz := by omega
    rw [zeros] at hz
    have oW := ofN_ hA W
    conv => cbv
    refine ⟨Lad, fun x => ⟨[(21, .v (.int .i64 x.i)), (20, .v (.int .i64 (ofN k))), (6, .v (.int .u64 x.q)), (0, .v (.slice b k e)), (1, .v (.slice a n c)), (5, .v (.slice (some az) W W))], R, [], 0, [⟨some az, W, W, 68, 1, x.zs⟩]⟩,
      fun m x => ∃ (i q : Nat) (ys : List Int), x.i = i ∧ i ≤ k ∧ m = k - i ∧ x.q = q ∧ q ≤ 1 ∧ x.zs = ints .u32 ys ∧ ys.length = W ∧ Dg ys ∧ nv ys + q * 4294967296 ^ i = Y % 4294967296 ^ i + X % 4294967296 ^ i ∧ ∀ j, i ≤ j → j < W → ys[j]? = some 0,
      ⟨k, ⟨0, 0, z⟩, ⟨⟨rfl, rfl, rfl, rfl, rfl, rfl, trivial⟩, rfl, trivial, rfl, .refl _⟩, 0, 0, _, rfl, by omega, rfl, rfl, by omega, hz, by simp, dg_zero _, by rw [nv_zero]; simp [Nat.mod_one], fun j _ hj => by rw [List.getElem?_replicate, if_pos hj]⟩, ?_⟩
    rintro m ⟨ii, qi, zs⟩ ⟨i, q, ys, hi, hin, hm, hq, hq1, hzs, hyl, hyd, hyv, hy0⟩
    simp only at hi hq hzs
    conv => cbv
    by_cases hlt : i < k
    case neg =>
      refine br_f (by rw [oN, cmp_lss hA]; simp; omega) ?_
      conv => cbv
      have eN : i = k := by omega
      have hK2 : 4294967296 ^ n ≤ 4294967296 ^ k := Nat.pow_le_pow_right (by decide) (by omega)
      rw [eN, Nat.mod_eq_of_lt hXn, Nat.mod_eq_of_lt (Nat.lt_of_lt_of_le hYk hK2)] at hyv
      refine ⟨by rw [oN]; omega, by rw [oN, oW]; omega, rfl, ?_⟩
      refine ⟨0, _, az, k, rfl, rfl, by rw [elem_is hA, oN]; show az.add (((k : Nat) : Int).toNat * 1) = _; rw [Nat.mul_one, Int.toNat_natCast], by show k + 1 ≤ zs.length; rw [hzs, ints_len, hyl]; omega, ?_⟩
      intro z1 hz1
      have e1 : cnv .u32 qi = (q : Int) := by rw [hq]; exact cnv_u32 hA (by omega)
      have hz1' : z1 = ints .u32 (ys.set k (q : Int)) := by
        rw [hz1]
        show List.take k zs ++ [Value.int .u32 _] ++ List.drop (k + 1) zs = _
        rw [hzs, e1]
        exact ints_set _ _ _ _ (by omega)
      have g2 := nv_set k 0 (q : Int) (hy0 k (by omega) (by omega)) (by decide) (by omega)
      rw [Int.zero_add, Int.toNat_natCast, hyv] at g2
      have hyd2 : Dg (ys.set k (q : Int)) := dg_set hyd k (by omega)
      conv => cbv
      refine CallP.pub 0 rfl (fun R1 hR1 hp1 => ?_) ⟨_, by rw [hP]; exact Tryd.func36, by decide, rfl⟩
      have hr1 : RI R1 .u32 (some az) W (ys.set k (q : Int)) := hp1.ri (by simp [hyl]) (fun _ => rfl) rfl hz1' hyd2.wf
      refine (normP hP R1 (some az) W W _ hr1 (Nat.le_refl _) (by omega)).callP rfl ?_
      rintro R2 _ hR2 ⟨a', n', c', rfl, hr, hc'⟩
      conv => cbv
      intro ρ R'' hle _ _
      rw [g2] at hr
      exact ⟨a', n', c', rfl, hr.le hle, hc'⟩
    refine br_t (by rw [oN, cmp_lss hA]; simp; omega) ?_
    conv => cbv
    refine ix_ri h2 oN i hi hlt ?_
    refine ld_ri hA h2 (by omega) (by omega) ?_
    intro d hd hdw
    have hd' : (cn Y)[i]? = some d := by rw [getD_get (by omega), hd]; congr 2; omega
    have hdv := cn_get hd'
    obtain ⟨D, hD⟩ : ∃ D, D = Y / 4294967296 ^ i % 4294967296 := ⟨_, rfl⟩
    rw [← hD] at hdv
    obtain ⟨F, hF⟩ : ∃ F, F = X / 4294967296 ^ i % 4294967296 := ⟨_, rfl⟩
    have ec : bin .add .u64 qi (cnv .u64 d) = ((q + D : Nat) : Int) := by rw [hq, hdv, cnv_u64 hA (by omega), add_u64 hA (by omega)]; omega
    obtain ⟨T, hT⟩ : ∃ T, T = q + D + F := ⟨_, rfl⟩
    have g3 := nv_set i 0 ((T % 4294967296 : Nat) : Int) (hy0 i (Nat.le_refl _) (by omega)) (by decide) (by omega)
    rw [Int.zero_add, Int.toNat_natCast] at g3
    have key : nv (ys.set i ((T % 4294967296 : Nat) : Int)) + T / 4294967296 * 4294967296 ^ (i + 1) = Y % 4294967296 ^ (i + 1) + X % 4294967296 ^ (i + 1) := by
      have h6 := pw_split T i
      have h7 : T * 4294967296 ^ i = q * 4294967296 ^ i + D * 4294967296 ^ i + F * 4294967296 ^ i := by rw [hT, Nat.add_mul, Nat.add_mul]
      rw [nv_next hD, nv_next hF, g3]
      omega
    have hyd3 : Dg (ys.set i ((T % 4294967296 : Nat) : Int)) := dg_set hyd i (by omega)
    have hs0 : ∀ j, i + 1 ≤ j → j < W → (ys.set i ((T % 4294967296 : Nat) : Int))[j]? = some 0 := fun j h1 h2 => by rw [List.getElem?_set, if_neg (by omega)]; exact hy0 j (by omega) h2
    conv => cbv
    by_cases hik : i < n
    · refine br_t (by rw [oK, cmp_lss hA]; simp; omega) ?_
      conv => cbv
      refine ix_ri h oK i hi hik ?_
      refine ld_ri hA h (by omega) (by omega) ?_
      intro f hf hfw
      have hf' : (cn X)[i]? = some f := by rw [getD_get (by omega), hf]; congr 2; omega
      have hfv := cn_get hf'
      rw [← hF] at hfv
      have eT : bin .add .u64 (bin .add .u64 qi (cnv .u64 d)) (cnv .u64 f) = (T : Int) := by rw [ec, hfv, cnv_u64 hA (by omega), add_u64 hA (by omega), hT]; omega
      conv => cbv
      refine ⟨by omega, by rw [oW]; omega, rfl, ?_⟩
      refine ⟨0, _, az, i, rfl, rfl, by rw [elem_is hA, hi]; show az.add (((i : Nat) : Int).toNat * 1) = _; rw [Nat.mul_one, Int.toNat_natCast], by show i + 1 ≤ zs.length; rw [hzs, ints_len, hyl]; omega, ?_⟩
      intro z1 hz1
      have e1 : cnv .u32 ((bin .add .u64 (bin .add .u64 qi (cnv .u64 d)) (cnv .u64 f))) = ((T % 4294967296 : Nat) : Int) := by rw [eT]; exact cu32 (cnv_is hA) T
      have hz1' : z1 = ints .u32 (ys.set i ((T % 4294967296 : Nat) : Int)) := by
        rw [hz1]
        show List.take i zs ++ [Value.int .u32 _] ++ List.drop (i + 1) zs = _
        rw [hzs, e1]
        exact ints_set _ _ _ _ (by omega)
      conv => cbv
      refine ⟨by decide, ?_⟩
      refine ⟨k - (i + 1), ⟨bin .add .i64 ii 1, bin .shr .u64 ((bin .add .u64 (bin .add .u64 qi (cnv .u64 d)) (cnv .u64 f))) 32, z1⟩, by omega, ⟨⟨rfl, rfl, rfl, rfl, rfl, rfl, trivial⟩, rfl, trivial, rfl, .refl _⟩, i + 1, T / 4294967296, _, by show bin .add .i64 ii 1 = _; rw [hi, add_i64 hA (by omega)]; rfl, by omega, rfl, ?_, by omega, hz1', by simp [hyl], hyd3, key, hs0⟩
      show bin .shr .u64 ((bin .add .u64 (bin .add .u64 qi (cnv .u64 d)) (cnv .u64 f))) 32 = ((T / 4294967296 : Nat) : Int)
      rw [eT, shr_u64 hA (by decide)]
      show (T : Int) / 2 ^ 32 = _
      omega
    · refine br_f (by rw [oK, cmp_lss hA]; simp; omega) ?_
      have hF0 : F = 0 := by
        have h1 : 4294967296 ^ n ≤ 4294967296 ^ i := Nat.pow_le_pow_right (by decide) (by omega)
        rw [hF, Nat.div_eq_of_lt (Nat.lt_of_lt_of_le hYk h1)]
      have eT : bin .add .u64 qi (cnv .u64 d) = (T : Int) := by rw [ec, hT, hF0]; rfl
      conv => cbv
      refine ⟨by omega, by rw [oW]; omega, rfl, ?_⟩
      refine ⟨0, _, az, i, rfl, rfl, by rw [elem_is hA, hi]; show az.add (((i : Nat) : Int).toNat * 1) = _; rw [Nat.mul_one, Int.toNat_natCast], by show i + 1 ≤ zs.length; rw [hzs, ints_len, hyl]; omega, ?_⟩
      intro z1 hz1
      have e1 : cnv .u32 ((bin .add .u64 qi (cnv .u64 d))) = ((T % 4294967296 : Nat) : Int) := by rw [eT]; exact cu32 (cnv_is hA) T
      have hz1' : z1 = ints .u32 (ys.set i ((T % 4294967296 : Nat) : Int)) := by
        rw [hz1]
        show List.take i zs ++ [Value.int .u32 _] ++ List.drop (i + 1) zs = _
        rw [hzs, e1]
        exact ints_set _ _ _ _ (by omega)
      conv => cbv
      refine ⟨by decide, ?_⟩
      refine ⟨k - (i + 1), ⟨bin .add .i64 ii 1, bin .shr .u64 ((bin .add .u64 qi (cnv .u64 d))) 32, z1⟩, by omega, ⟨⟨rfl, rfl, rfl, rfl, rfl, rfl, trivial⟩, rfl, trivial, rfl, .refl _⟩, i + 1, T / 4294967296, _, by show bin .add .i64 ii 1 = _; rw [hi, add_i64 hA (by omega)]; rfl, by omega, rfl, ?_, by omega, hz1', by simp [hyl], hyd3, key, hs0⟩
      show bin .shr .u64 ((bin .add .u64 qi (cnv .u64 d))) 32 = ((T / 4294967296 : Nat) : Int)
      rw [eT, shr_u64 hA (by decide)]
      show (T : Int) / 2 ^ 32 = _
      omega
  · refine br_f (by rw [ofN_ hA n, ofN_ hA k, cmp_lss hA]; simp; omega) ?_
    conv => cbv
    have oN := ofN_ hA n
    have oK := ofN_ hA k
    have hlX := (h).len
    have hlY := (h2).len
    have hXn := cn_lt X
    rw [← hlX] at hXn
    have hYk := cn_lt Y
    rw [← hlY] at hYk
    have el : bin .add .i64 (ofN n) 1 = ((n + 1 : Nat) : Int) := by rw [oN, add_i64 hA (by omega)]; rfl
    refine ⟨by rw [el]; omega, by rw [el]; omega, by rw [el]; omega, by rw [el]; omega, ?_⟩
    intro az nz cz z hnz hcz hz
    rw [el] at hnz hcz
    obtain ⟨W, hW⟩ : ∃ W, W = n + 1 := ⟨_, rfl⟩
    obtain rfl : W = nz := by omega
    obtain rfl : W = cz := by omega
    rw [zeros] at hz
    have oW := ofN_ hA W
    conv => cbv
    refine ⟨Lad, fun x => ⟨[(21, .v (.int .i64 x.i)), (20, .v (.int .i64 (ofN n))), (6, .v (.int .u64 x.q)), (0, .v (.slice a n c)), (1, .v (.slice b k e)), (5, .v (.slice (some az) W W))], R, [], 0, [⟨some az, W, W, 68, 1, x.zs⟩]⟩,
      fun m x => ∃ (i q : Nat) (ys : List Int), x.i = i ∧ i ≤ n ∧ m = n - i ∧ x.q = q ∧ q ≤ 1 ∧ x.zs = ints .u32 ys ∧ ys.length = W ∧ Dg ys ∧ nv ys + q * 4294967296 ^ i = X % 4294967296 ^ i + Y % 4294967296 ^ i ∧ ∀ j, i ≤ j → j < W → ys[j]? = some 0,
      ⟨n, ⟨0, 0, z⟩, ⟨⟨rfl, rfl, rfl, rfl, rfl, rfl, trivial⟩, rfl, trivial, rfl, .refl _⟩, 0, 0, _, rfl, by omega, rfl, rfl, by omega, hz, by simp, dg_zero _, by rw [nv_zero]; simp [Nat.mod_one], fun j _ hj => by rw [List.getElem?_replicate, if_pos hj]⟩, ?_⟩
    rintro m ⟨ii, qi, zs⟩ ⟨i, q, ys, hi, hin, hm, hq, hq1, hzs, hyl, hyd, hyv, hy0⟩
    simp only at hi hq hzs
    conv => cbv
    by_cases hlt : i < n
    case neg =>
      refine br_f (by rw [oN, cmp_lss hA]; simp; omega) ?_
      conv => cbv
      have eN : i = n := by omega
      have hK2 : 4294967296 ^ k ≤ 4294967296 ^ n := Nat.pow_le_pow_right (by decide) (by omega)
      rw [eN, Nat.mod_eq_of_lt hXn, Nat.mod_eq_of_lt (Nat.lt_of_lt_of_le hYk hK2)] at hyv
      refine ⟨by rw [oN]; omega, by rw [oN, oW]; omega, rfl, ?_⟩
      refine ⟨0, _, az, n, rfl, rfl, by rw [elem_is hA, oN]; show az.add (((n : Nat) : Int).toNat * 1) = _; rw [Nat.mul_one, Int.toNat_natCast], by show n + 1 ≤ zs.length; rw [hzs, ints_len, hyl]; omega, ?_⟩
      intro z1 hz1
      have e1 : cnv .u32 qi = (q : Int) := by rw [hq]; exact cnv_u32 hA (by omega)
      have hz1' : z1 = ints .u32 (ys.set n (q : Int)) := by
        rw [hz1]
        show List.take n zs ++ [Value.int .u32 _] ++ List.drop (n + 1) zs = _
        rw [hzs, e1]
        exact ints_set _ _ _ _ (by omega)
      have g2 := nv_set n 0 (q : Int) (hy0 n (by omega) (by omega)) (by decide) (by omega)
      rw [Int.zero_add, Int.toNat_natCast, hyv] at g2
      have hyd2 : Dg (ys.set n (q : Int)) := dg_set hyd n (by omega)
      conv => cbv
      refine CallP.pub 0 rfl (fun R1 hR1 hp1 => ?_) ⟨_, by rw [hP]; exact Tryd.func36, by decide, rfl⟩
      have hr1 : RI R1 .u32 (some az) W (ys.set n (q : Int)) := hp1.ri (by simp [hyl]) (fun _ => rfl) rfl hz1' hyd2.wf
      refine (normP hP R1 (some az) W W _ hr1 (Nat.le_refl _) (by omega)).callP rfl ?_
      rintro R2 _ hR2 ⟨a', n', c', rfl, hr, hc'⟩
      conv => cbv
      intro ρ R'' hle _ _
      rw [g2] at hr
      exact ⟨a', n', c', rfl, hr.le hle, hc'⟩
    refine br_t (by rw [oN, cmp_lss hA]; simp; omega) ?_
    conv => cbv
    refine ix_ri h oN i hi hlt ?_
    refine ld_ri hA h (by omega) (by omega) ?_
    intro d hd hdw
    have hd' : (cn X)[i]? = some d := by rw [getD_get (by omega), hd]; congr 2; omega
    have hdv := cn_get hd'
    obtain ⟨D, hD⟩ : ∃ D, D = X / 4294967296 ^ i % 4294967296 := ⟨_, rfl⟩
    rw [← hD] at hdv
    obtain ⟨F, hF⟩ : ∃ F, F = Y / 4294967296 ^ i % 4294967296 := ⟨_, rfl⟩
    have ec : bin .add .u64 qi (cnv .u64 d) = ((q + D : Nat) : Int) := by rw [hq, hdv, cnv_u64 hA (by omega), add_u64 hA (by omega)]; omega
    obtain ⟨T, hT⟩ : ∃ T, T = q + D + F := ⟨_, rfl⟩
    have g3 := nv_set i 0 ((T % 4294967296 : Nat) : Int) (hy0 i (Nat.le_refl _) (by omega)) (by decide) (by omega)
    rw [Int.zero_add, Int.toNat_natCast] at g3
    have key : nv (ys.set i ((T % 4294967296 : Nat) : Int)) + T / 4294967296 * 4294967296 ^ (i + 1) = X % 4294967296 ^ (i + 1) + Y % 4294967296 ^ (i + 1) := by
      have h6 := pw_split T i
      have h7 : T * 4294967296 ^ i = q * 4294967296 ^ i + D * 4294967296 ^ i + F * 4294967296 ^ i := by rw [hT, Nat.add_mul, Nat.add_mul]
      rw [nv_next hD, nv_next hF, g3]
      omega
    have hyd3 : Dg (ys.set i ((T % 4294967296 : Nat) : Int)) := dg_set hyd i (by omega)
    have hs0 : ∀ j, i + 1 ≤ j → j < W → (ys.set i ((T % 4294967296 : Nat) : Int))[j]? = some 0 := fun j h1 h2 => by rw [List.getElem?_set, if_neg (by omega)]; exact hy0 j (by omega) h2
    conv => cbv
    by_cases hik : i < k
    · refine br_t (by rw [oK, cmp_lss hA]; simp; omega) ?_
      conv => cbv
      refine ix_ri h2 oK i hi hik ?_
      refine ld_ri hA h2 (by omega) (by omega) ?_
      intro f hf hfw
      have hf' : (cn Y)[i]? = some f := by rw [getD_get (by omega), hf]; congr 2; omega
      have hfv := cn_get hf'
      rw [← hF] at hfv
      have eT : bin .add .u64 (bin .add .u64 qi (cnv .u64 d)) (cnv .u64 f) = (T : Int) := by rw [ec, hfv, cnv_u64 hA (by omega), add_u64 hA (by omega), hT]; omega
      conv => cbv
      refine ⟨by omega, by rw [oW]; omega, rfl, ?_⟩
      refine ⟨0, _, az, i, rfl, rfl, by rw [elem_is hA, hi]; show az.add (((i : Nat) : Int).toNat * 1) = _; rw [Nat.mul_one, Int.toNat_natCast], by show i + 1 ≤ zs.length; rw [hzs, ints_len, hyl]; omega, ?_⟩
      intro z1 hz1
      have e1 : cnv .u32 ((bin .add .u64 (bin .add .u64 qi (cnv .u64 d)) (cnv .u64 f))) = ((T % 4294967296 : Nat) : Int) := by rw [eT]; exact cu32 (cnv_is hA) T
      have hz1' : z1 = ints .u32 (ys.set i ((T % 4294967296 : Nat) : Int)) := by
        rw [hz1]
        show List.take i zs ++ [Value.int .u32 _] ++ List.drop (i + 1) zs = _
        rw [hzs, e1]
        exact ints_set _ _ _ _ (by omega)
      conv => cbv
      refine ⟨by decide, ?_⟩
      refine ⟨n - (i + 1), ⟨bin .add .i64 ii 1, bin .shr .u64 ((bin .add .u64 (bin .add .u64 qi (cnv .u64 d)) (cnv .u64 f))) 32, z1⟩, by omega, ⟨⟨rfl, rfl, rfl, rfl, rfl, rfl, trivial⟩, rfl, trivial, rfl, .refl _⟩, i + 1, T / 4294967296, _, by show bin .add .i64 ii 1 = _; rw [hi, add_i64 hA (by omega)]; rfl, by omega, rfl, ?_, by omega, hz1', by simp [hyl], hyd3, key, hs0⟩
      show bin .shr .u64 ((bin .add .u64 (bin .add .u64 qi (cnv .u64 d)) (cnv .u64 f))) 32 = ((T / 4294967296 : Nat) : Int)
      rw [eT, shr_u64 hA (by decide)]
      show (T : Int) / 2 ^ 32 = _
      omega
    · refine br_f (by rw [oK, cmp_lss hA]; simp; omega) ?_
      have hF0 : F = 0 := by
        have h1 : 4294967296 ^ k ≤ 4294967296 ^ i := Nat.pow_le_pow_right (by decide) (by omega)
        rw [hF, Nat.div_eq_of_lt (Nat.lt_of_lt_of_le hYk h1)]
      have eT : bin .add .u64 qi (cnv .u64 d) = (T : Int) := by rw [ec, hT, hF0]; rfl
      conv => cbv
      refine ⟨by omega, by rw [oW]; omega, rfl, ?_⟩
      refine ⟨0, _, az, i, rfl, rfl, by rw [elem_is hA, hi]; show az.add (((i : Nat) : Int).toNat * 1) = _; rw [Nat.mul_one, Int.toNat_natCast], by show i + 1 ≤ zs.length; rw [hzs, ints_len, hyl]; omega, ?_⟩
      intro z1 hz1
      have e1 : cnv .u32 ((bin .add .u64 qi (cnv .u64 d))) = ((T % 4294967296 : Nat) : Int) := by rw [eT]; exact cu32 (cnv_is hA) T
      have hz1' : z1 = ints .u32 (ys.set i ((T % 4294967296 : Nat) : Int)) := by
        rw [hz1]
        show List.take i zs ++ [Value.int .u32 _] ++ List.drop (i + 1) zs = _
        rw [hzs, e1]
        exact ints_set _ _ _ _ (by omega)
      conv => cbv
      refine ⟨by decide, ?_⟩
      refine ⟨n - (i + 1), ⟨bin .add .i64 ii 1, bin .shr .u64 ((bin .add .u64 qi (cnv .u64 d))) 32, z1⟩, by omega, ⟨⟨rfl, rfl, rfl, rfl, rfl, rfl, trivial⟩, rfl, trivial, rfl, .refl _⟩, i + 1, T / 4294967296, _, by show bin .add .i64 ii 1 = _; rw [hi, add_i64 hA (by omega)]; rfl, by omega, rfl, ?_, by omega, hz1', by simp [hyl], hyd3, key, hs0⟩
      show bin .shr .u64 ((bin .add .u64 qi (cnv .u64 d))) 32 = ((T / 4294967296 : Nat) : Int)
      rw [eT, shr_u64 hA (by decide)]
      show (T : Int) / 2 ^ 32 = _
      omega
end Go.Proofs.YtepfbdfbfimefaaDoor.Bf
