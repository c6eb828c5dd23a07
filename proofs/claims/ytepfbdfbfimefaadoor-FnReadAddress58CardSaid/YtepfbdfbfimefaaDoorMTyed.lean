/- Great numbers: multiplied at any size. -/
/- The types that some functions name, as the evaluator wants them. Printed by a program of my own (seatgen.py). -/
import Derived.Test.YtepfbdfbfimefaaDoorMTyec
import Derived.Test.YtepfbdfbfimefaaDoorSl
import Derived.Test.YtepfbdfbfimefaaDoorProg
import Derived.KernelRfl
section
set_option linter.unusedSimpArgs false
set_option linter.unusedVariables false
namespace Go.Proofs.YtepfbdfbfimefaaDoor.Bf
open Go Go.Se Go.Proofs Go.Proofs.YtepfbdfbfimefaaDoor.Co Go.Proofs.YtepfbdfbfimefaaDoor.Tyec

structure Lmu where
  j : Int
  q : Int
  zs : List Value

set_option maxRecDepth 100000 in
set_option maxHeartbeats 4000000 in
theorem mulG {P : Program} (hP : P = Tryd.prog) (R : RO) (a b : Option Addr) (n c k e X Y : Nat) (h : RI R .u32 a n (cn X)) (hn : n ≤ 10000) (h2 : RI R .u32 b k (cn Y)) (hk : k ≤ 10000) :
    RetP P 42 [.slice a n c, .slice b k e] R fun R' r => ∃ a' n' c', r = .slice a' n' c' ∧ RI R' .u32 a' n' (cn (X * Y)) ∧ n' ≤ c' := by
  subst hP
  have hl := h.len
  have hlY := h2.len
  have hXn := cn_lt X
  rw [← hl] at hXn
  have hYk := cn_lt Y
  rw [← hlY] at hYk
  refine retP_vc (fz := []) Tryd.func42 rfl (by decide) rfl ok42 ?_
  intro P bin cmp cnv neg com bnot beq ofN toN at_ sub_ scmp cat sget ssz ssub elem fld_ hP hA
  conv => cbv
  have o := ofN_ hA n
  have ok := ofN_ hA k
  have el : bin .add .i64 (ofN n) (ofN k) = ((n + k : Nat) : Int) := by rw [o, ok, add_i64 hA (by omega)]; omega
  refine ⟨by rw [el]; omega, by rw [el]; omega, by rw [el]; omega, by rw [el]; omega, ?_⟩
  intro az nz cz z hnz hcz hz
  rw [el] at hnz hcz
  obtain ⟨W, hW⟩ : ∃ W, W = n + k := ⟨_, rfl⟩
  obtain rfl : W = nz := by omega
  obtain rfl : W = cz := by omega
  rw [zeros] at hz
  have oW := ofN_ hA W
  conv => cbv
  refine ⟨Lz, fun x => ⟨[(19, .v (.int .i64 x.i)), (18, .v (.int .i64 (ofN n))), (17, .v (.slice a n c)), (1, .v (.slice b k e)), (5, .v (.slice (some az) W W))], R, [], 0, [⟨some az, W, W, 68, 1, x.zs⟩]⟩,
    fun m x => ∃ (i : Nat) (ys : List Int), x.i = i ∧ i ≤ n ∧ m = n - i ∧ x.zs = ints .u32 ys ∧ ys.length = W ∧ Dg ys ∧ nv ys = X % 4294967296 ^ i * Y ∧ ∀ j, i + k ≤ j → j < W → ys[j]? = some 0,
    ⟨n, ⟨0, z⟩, ⟨⟨rfl, rfl, rfl, rfl, rfl, trivial⟩, rfl, trivial, rfl, .refl _⟩, 0, _, rfl, by omega, rfl, hz, by simp, dg_zero _, by rw [nv_zero]; simp [Nat.mod_one], fun j _ hj => by rw [List.getElem?_replicate, if_pos hj]⟩, ?_⟩
  rintro m ⟨ii, zs⟩ ⟨i, ys, hi, hin, hm, hzs, hyl, hyd, hyv, hy0⟩
  simp only at hi hzs
  conv => cbv
  by_cases hlt : i < n
  case neg =>
    refine br_f (by rw [o, cmp_lss hA]; simp; omega) ?_
    conv => cbv
    have hnX : nv ys = X * Y := by rw [hyv, show i = n by omega, Nat.mod_eq_of_lt hXn]
    refine CallP.pub 0 rfl (fun R1 hR1 hp1 => ?_) ⟨_, by rw [hP]; exact Tryd.func36, by decide, rfl⟩
    have hr1 : RI R1 .u32 (some az) W ys := hp1.ri hyl.symm (fun _ => rfl) rfl hzs hyd.wf
    refine (normP hP R1 (some az) W W ys hr1 (Nat.le_refl _) (by omega)).callP rfl ?_
    rintro R2 _ hR2 ⟨a', n', c', rfl, hr, hc'⟩
    conv => cbv
    intro ρ R'' hle _ _
    exact ⟨a', n', c', rfl, by rw [← hnX]; exact hr.le hle, hc'⟩
  refine br_t (by rw [o, cmp_lss hA]; simp; omega) ?_
  conv => cbv
  refine ix_ri h o i hi hlt ?_
  refine ld_ri hA h (by omega) (by omega) ?_
  intro d hd hdw
  have hd' : (cn X)[i]? = some d := by rw [getD_get (by omega), hd]; congr 2; omega
  have hdv := cn_get hd'
  obtain ⟨D, hD⟩ : ∃ D, D = X / 4294967296 ^ i % 4294967296 := ⟨_, rfl⟩
  rw [← hD] at hdv
  have hDl : D < 4294967296 := by omega
  conv => cbv
  refine ⟨Lmu, fun x => ⟨[(26, .v (.int .i64 x.j)), (25, .v (.int .i64 (ofN k))), (24, .v (.slice b k e)), (8, .v (.int .u64 x.q)), (7, .v (.int .u32 d)), (6, .v (.int .i64 ii)), (19, .v (.int .i64 ii)), (18, .v (.int .i64 (ofN n))), (17, .v (.slice a n c)), (1, .v (.slice b k e)), (5, .v (.slice (some az) W W))], R, [], 0, [⟨some az, W, W, 68, 1, x.zs⟩]⟩,
    fun m' x => ∃ (j q : Nat) (ws : List Int), x.j = j ∧ j ≤ k ∧ m' = k - j ∧ x.q = q ∧ q < 4294967296 ∧ x.zs = ints .u32 ws ∧ ws.length = W ∧ Dg ws ∧ nv ws + q * 4294967296 ^ (i + j) = X % 4294967296 ^ i * Y + D * (Y % 4294967296 ^ j) * 4294967296 ^ i ∧ ∀ j, i + k ≤ j → j < W → ws[j]? = some 0,
    ⟨k, ⟨0, 0, zs⟩, ⟨⟨rfl, rfl, rfl, rfl, rfl, rfl, rfl, rfl, rfl, rfl, rfl, trivial⟩, rfl, trivial, rfl, .refl _⟩, 0, 0, ys, rfl, by omega, rfl, rfl, by decide, hzs, hyl, hyd, by rw [hyv, Nat.pow_zero, Nat.mod_one]; simp, hy0⟩, ?_⟩
  rintro m' ⟨jj, qq, z1⟩ ⟨j, q, ws, hj, hjk, hm', hq, hql, hz1, hwl, hwd, hwv, hw0⟩
  simp only at hj hq hz1
  conv => cbv
  by_cases hjlt : j < k
  case neg =>
    have ejk : j = k := by omega
    rw [ejk, Nat.mod_eq_of_lt hYk] at hwv
    refine br_f (by rw [ok, cmp_lss hA]; simp; omega) ?_
    conv => cbv
    have ei1 : bin .add .i64 ii (ofN k) = ((i + k : Nat) : Int) := by rw [hi, ok, add_i64 hA (by omega)]; omega
    refine ⟨by rw [ei1]; omega, by rw [ei1, oW]; omega, rfl, ?_⟩
    refine ⟨0, _, az, i + k, rfl, rfl, by rw [elem_is hA, ei1]; show az.add (((i + k : Nat) : Int).toNat * 1) = _; rw [Nat.mul_one, Int.toNat_natCast], by show i + k + 1 ≤ z1.length; rw [hz1, ints_len, hwl]; omega, ?_⟩
    intro z3 hz3
    have e3 : cnv .u32 qq = (q : Int) := by rw [hq]; exact cnv_u32 hA (by omega)
    have hz3' : z3 = ints .u32 (ws.set (i + k) (q : Int)) := by
      rw [hz3]
      show List.take (i + k) z1 ++ [Value.int .u32 _] ++ List.drop (i + k + 1) z1 = _
      rw [hz1, e3]
      exact ints_set _ _ _ _ (by omega)
    conv => cbv
    refine ⟨n - (i + 1), ⟨bin .add .i64 ii 1, z3⟩, by omega, ⟨⟨rfl, rfl, rfl, rfl, rfl, trivial⟩, rfl, trivial, rfl, .refl _⟩, i + 1, _, by show bin .add .i64 ii 1 = _; rw [hi, add_i64 hA (by omega)]; rfl, by omega, rfl, hz3', by simp [hwl], dg_set hwd (i + k) (by omega), ?_, ?_⟩
    · have g2 := nv_set (i + k) 0 (q : Int) (hw0 (i + k) (Nat.le_refl _) (by omega)) (by decide) (by omega)
      rw [Int.zero_add, Int.toNat_natCast, hwv] at g2
      rw [g2, nv_next hD, Nat.add_mul, Nat.mul_right_comm]
    · intro t h1 h3
      rw [List.getElem?_set, if_neg (by omega)]
      exact hw0 t (by omega) h3
  refine br_t (by rw [ok, cmp_lss hA]; simp; omega) ?_
  conv => cbv
  refine ix_ri h2 ok j hj hjlt ?_
  refine ld_ri hA h2 (by omega) (by omega) ?_
  intro y hy hyw
  have hy' : (cn Y)[j]? = some y := by rw [getD_get (by omega), hy]; congr 2; omega
  have hyv2 := cn_get hy'
  obtain ⟨F, hF⟩ : ∃ F, F = Y / 4294967296 ^ j % 4294967296 := ⟨_, rfl⟩
  rw [← hF] at hyv2
  have hFl : F < 4294967296 := by omega
  conv => cbv
  obtain ⟨ui, u, hu, hui, hul⟩ := ex_get hwd (show i + j < ws.length by omega)
  have ei : bin .add .i64 ii jj = ((i + j : Nat) : Int) := by rw [hi, hj, add_i64 hA (by omega)]; omega
  refine ⟨by rw [ei]; omega, by rw [ei, oW]; omega, rfl, ?_⟩
  refine ld_row hA 0 (r := ⟨some az, W, W, 68, 1, z1⟩) rfl rfl rfl (v := .int .u32 ui) (by show z1[_]? = _; rw [ei, hz1, ints, List.getElem?_map, Int.toNat_natCast, hu]; rfl) ?_
  conv => cbv
  obtain ⟨T, hT⟩ : ∃ T, T = q + (D * F + u) := ⟨_, rfl⟩
  have hDF := Nat.mul_le_mul (show D ≤ 4294967295 by omega) (show F ≤ 4294967295 by omega)
  have hTl : T < 18446744073709551616 := by omega
  have em : bin .mul .u64 (cnv .u64 d) (cnv .u64 y) = ((D * F : Nat) : Int) := by
    rw [hdv, hyv2, cnv_u64 hA (by omega), cnv_u64 hA (by omega), mul_u64 hA ⟨by rw [← Int.natCast_mul]; exact Int.natCast_nonneg _, by rw [← Int.natCast_mul]; omega⟩, Int.natCast_mul]
  have ev : bin .add .u64 qq (bin .add .u64 (bin .mul .u64 (cnv .u64 d) (cnv .u64 y)) (cnv .u64 ui)) = (T : Int) := by
    have e1 : bin .add .u64 (bin .mul .u64 (cnv .u64 d) (cnv .u64 y)) (cnv .u64 ui) = ((D * F + u : Nat) : Int) := by
      rw [em, hui, cnv_u64 hA (by omega), add_u64 hA (by omega)]
      omega
    rw [e1, hq, add_u64 hA (by omega), hT]
    omega
  have e2 : cnv .u32 (bin .add .u64 qq (bin .add .u64 (bin .mul .u64 (cnv .u64 d) (cnv .u64 y)) (cnv .u64 ui))) = ((T % 4294967296 : Nat) : Int) := by
    rw [ev]
    exact cu32 (cnv_is hA) T
  refine ⟨by rw [ei]; omega, by rw [ei, oW]; omega, rfl, ?_⟩
  refine ⟨0, _, az, i + j, rfl, rfl, by rw [elem_is hA, ei]; show az.add (((i + j : Nat) : Int).toNat * 1) = _; rw [Nat.mul_one, Int.toNat_natCast], by show i + j + 1 ≤ z1.length; rw [hz1, ints_len, hwl]; omega, ?_⟩
  intro z2 hz2
  have hz2' : z2 = ints .u32 (ws.set (i + j) ((T % 4294967296 : Nat) : Int)) := by
    rw [hz2]
    show List.take (i + j) z1 ++ [Value.int .u32 _] ++ List.drop (i + j + 1) z1 = _
    rw [hz1, e2]
    exact ints_set _ _ _ _ (by omega)
  conv => cbv
  refine ⟨by decide, ?_⟩
  refine ⟨k - (j + 1), ⟨bin .add .i64 jj 1, bin .shr .u64 (bin .add .u64 qq (bin .add .u64 (bin .mul .u64 (cnv .u64 d) (cnv .u64 y)) (cnv .u64 ui))) 32, z2⟩, by omega, ⟨⟨rfl, rfl, rfl, rfl, rfl, rfl, rfl, rfl, rfl, rfl, rfl, trivial⟩, rfl, trivial, rfl, .refl _⟩, j + 1, T / 4294967296, _, ?_, by omega, rfl, ?_, by omega, hz2', by simp [hwl], dg_set hwd (i + j) (by omega), ?_, ?_⟩
  · show bin .add .i64 jj 1 = _
    rw [hj, add_i64 hA (by omega)]
    rfl
  · show bin .shr .u64 (bin .add .u64 qq (bin .add .u64 (bin .mul .u64 (cnv .u64 d) (cnv .u64 y)) (cnv .u64 ui))) 32 = ((T / 4294967296 : Nat) : Int)
    rw [ev, shr_u64 hA (by decide)]
    show (T : Int) / 2 ^ 32 = _
    omega
  · have g1 := nv_set2 (i + j) ui ((T % 4294967296 : Nat) : Int) hu
    rw [Int.toNat_natCast, hui, Int.toNat_natCast] at g1
    have h6 := pw_split T (i + j)
    rw [← Nat.add_assoc i j 1]
    have h7 : T * 4294967296 ^ (i + j) = q * 4294967296 ^ (i + j) + (D * F * 4294967296 ^ (i + j) + u * 4294967296 ^ (i + j)) := by rw [hT, Nat.add_mul, Nat.add_mul]
    have h8 : D * (Y % 4294967296 ^ (j + 1)) * 4294967296 ^ i = D * (Y % 4294967296 ^ j) * 4294967296 ^ i + D * F * 4294967296 ^ (i + j) := by
      rw [nv_next hF, Nat.mul_add, Nat.add_mul, Nat.pow_add, ← Nat.mul_assoc D F, Nat.mul_comm (4294967296 ^ i) (4294967296 ^ j), ← Nat.mul_assoc (D * F)]
    rw [h8]
    omega
  · intro t h1 h3
    rw [List.getElem?_set, if_neg (by omega)]
    exact hw0 t h1 h3
end Go.Proofs.YtepfbdfbfimefaaDoor.Bf
end
section
namespace Go.Proofs.YtepfbdfbfimefaaDoor.Tyed
open Go Go.Se Go.Proofs

/-- int -/
def y3 : Ty := ⟨.int .i64, 1, false, .int .i64 0, 8⟩
theorem ty3 : tyOf Tryd.prog 3 = some y3 := by kernel_rfl
/-- string -/
def y9 : Ty := ⟨.str, 1, false, .string ByteArray.empty, 16⟩
theorem ty9 : tyOf Tryd.prog 9 = some y9 := by kernel_rfl
/-- uint64 -/
def y33 : Ty := ⟨.int .u64, 1, false, .int .u64 0, 8⟩
theorem ty33 : tyOf Tryd.prog 33 = some y33 := by kernel_rfl
/-- big.nat -/
def y48 : Ty := ⟨.slc 68, 1, false, .slice none 0 0, 24⟩
theorem ty48 : tyOf Tryd.prog 48 = some y48 := by kernel_rfl
/-- uint32 -/
def y68 : Ty := ⟨.int .u32, 1, false, .int .u32 0, 4⟩
theorem ty68 : tyOf Tryd.prog 68 = some y68 := by kernel_rfl
/-- uint -/
def y82 : Ty := ⟨.int .u64, 1, false, .int .u64 0, 8⟩
theorem ty82 : tyOf Tryd.prog 82 = some y82 := by kernel_rfl

/-- function 49: (pub-mintmark/pub/smallbig.nat).div -/
def tys49 : Nat → Option Ty := fun t => find [(48, y48), (68, y68), (3, y3), (9, y9), (33, y33), (82, y82)] t
theorem ok49 : TysOk Tryd.prog tys49 := tysOk_of ⟨ty48, ty68, ty3, ty9, ty33, ty82, trivial⟩
end Go.Proofs.YtepfbdfbfimefaaDoor.Tyed
end
