/- Great numbers: times one digit. -/
import Derived.Test.YtepfbdfbfimefaaDoorNbc
import Derived.Test.YtepfbdfbfimefaaDoorSl
import Derived.Test.YtepfbdfbfimefaaDoorProg
import Derived.KernelRfl
-- merged
/- The types that some functions name, as the evaluator wants them. Printed by a program of my own (seatgen.py). -/
namespace Go.Proofs.YtepfbdfbfimefaaDoor.Tyne
open Go Go.Se Go.Proofs

/-- int -/
def y3 : Ty := ⟨.int .i64, 1, false, .int .i64 0, 8⟩
theorem ty3 : tyOf Tryd.prog 3 = some y3 := by kernel_rfl
/-- uint64 -/
def y33 : Ty := ⟨.int .u64, 1, false, .int .u64 0, 8⟩
theorem ty33 : tyOf Tryd.prog 33 = some y33 := by kernel_rfl
/-- big.nat -/
def y48 : Ty := ⟨.slc 68, 1, false, .slice none 0 0, 24⟩
theorem ty48 : tyOf Tryd.prog 48 = some y48 := by kernel_rfl
/-- uint32 -/
def y68 : Ty := ⟨.int .u32, 1, false, .int .u32 0, 4⟩
theorem ty68 : tyOf Tryd.prog 68 = some y68 := by kernel_rfl

/-- function 42: (pub-mintmark/pub/smallbig.nat).mul -/
def tys42 : Nat → Option Ty := fun t => find [(48, y48), (68, y68), (3, y3), (33, y33)] t
theorem ok42 : TysOk Tryd.prog tys42 := tysOk_of ⟨ty48, ty68, ty3, ty33, trivial⟩
end Go.Proofs.YtepfbdfbfimefaaDoor.Tyne
set_option linter.unusedSimpArgs false
set_option linter.unusedVariables false
namespace Go.Proofs.YtepfbdfbfimefaaDoor.Co
open Go Go.Se Go.Proofs Go.Proofs.YtepfbdfbfimefaaDoor.Tyne

structure Lm where
  j : Int
  q : Int
  zs : List Value

set_option maxRecDepth 100000 in
set_option maxHeartbeats 4000000 in
theorem mulP {P : Program} (hP : P = Tryd.prog) (R : RO) (a b : Option Addr) (n c k e X Y : Nat) (h : RI R .u32 a n (cn X)) (hn : n ≤ 10000) (h2 : RI R .u32 b k (cn Y)) (hY0 : Y ≠ 0) (hY : Y < 4294967296) :
    RetP P 42 [.slice a n c, .slice b k e] R fun R' r => ∃ a' n' c', r = .slice a' n' c' ∧ RI R' .u32 a' n' (cn (X * Y)) ∧ n' ≤ c' := by
  subst hP
  rw [cn_one hY0 hY] at h2
  have hk : k = 1 := h2.len
  have hl := h.len
  have hXn := cn_lt X
  rw [← hl] at hXn
  refine retP_vc (fz := []) Tryd.func42 rfl (by decide) rfl ok42 ?_
  intro P bin cmp cnv neg com bnot beq ofN toN at_ sub_ scmp cat sget ssz ssub elem fld_ hP hA
  conv => cbv
  have o := ofN_ hA n
  have ok := ofN_ hA k
  have el : bin .add .i64 (ofN n) (ofN k) = ((n + 1 : Nat) : Int) := by rw [o, ok, add_i64 hA (by omega)]; omega
  refine ⟨by rw [el]; omega, by rw [el]; omega, by rw [el]; omega, by rw [el]; omega, ?_⟩
  intro az nz cz z hnz hcz hz
  rw [el] at hnz hcz
  obtain ⟨W, hW⟩ : ∃ W, W = n + 1 := ⟨_, rfl⟩
  obtain rfl : W = nz := by omega
  obtain rfl : W = cz := by omega
  rw [zeros] at hz
  have oW := ofN_ hA W
  conv => cbv
  refine ⟨Lz, fun x => ⟨[(19, .v (.int .i64 x.i)), (18, .v (.int .i64 (ofN n))), (17, .v (.slice a n c)), (1, .v (.slice b k e)), (5, .v (.slice (some az) W W))], R, [], 0, [⟨some az, W, W, 68, 1, x.zs⟩]⟩,
    fun m x => ∃ (i : Nat) (ys : List Int), x.i = i ∧ i ≤ n ∧ m = n - i ∧ x.zs = ints .u32 ys ∧ ys.length = W ∧ Dg ys ∧ nv ys = X % 4294967296 ^ i * Y ∧ ∀ j, i < j → j < W → ys[j]? = some 0,
    ⟨n, ⟨0, z⟩, ⟨⟨rfl, rfl, rfl, rfl, rfl, trivial⟩, rfl, trivial, rfl, .refl _⟩, 0, _, rfl, by omega, rfl, hz, by simp, dg_zero _, by rw [nv_zero]; simp [Nat.mod_one], fun j _ hj => by rw [List.getElem?_replicate, if_pos hj]⟩, ?_⟩
  rintro m ⟨ii, zs⟩ ⟨i, ys, hi, hin, hm, hzs, hyl, hyd, hyv, hy0⟩
  simp only at hi hzs
  conv => cbv
  by_cases hlt : i < n
  case neg =>
    refine br_f (by rw [o, cmp_lss hA]; simp; omega) ?_
    conv => cbv
    have hnX : nv ys = X * Y := by rw [hyv, show i = n by omega, Nat.mod_eq_of_lt hXn]
    refine CallP.pub 0 rfl (fun R1 hR1 hp1 => ?_) ⟨_, by rw [hP]; exact Tryd.func36, by decide, rfl⟩
    have hr1 : RI R1 .u32 (some az) W ys := hp1.ri hyl.symm (fun _ => rfl) rfl hzs hyd.wf
    refine (normP hP R1 (some az) W W ys hr1 (Nat.le_refl _) (by omega)).callP rfl ?_
    rintro R2 _ hR2 ⟨a', n', c', rfl, hr, hc'⟩
    conv => cbv
    intro ρ R'' hle _ _
    exact ⟨a', n', c', rfl, by rw [← hnX]; exact hr.le hle, hc'⟩
  refine br_t (by rw [o, cmp_lss hA]; simp; omega) ?_
  conv => cbv
  refine ix_ri h o i hi hlt ?_
  refine ld_ri hA h (by omega) (by omega) ?_
  intro d hd hdw
  have hd' : (cn X)[i]? = some d := by rw [getD_get (by omega), hd]; congr 2; omega
  have hdv := cn_get hd'
  obtain ⟨D, hD⟩ : ∃ D, D = X / 4294967296 ^ i % 4294967296 := ⟨_, rfl⟩
  rw [← hD] at hdv
  have hDl : D < 4294967296 := by omega
  obtain ⟨u, hu⟩ : ∃ u, ys[i]? = some u := ⟨_, List.getElem?_eq_getElem (by omega)⟩
  have hur := hyd u (List.mem_of_getElem? hu)
  obtain ⟨U, hU⟩ : ∃ U : Nat, u = U := ⟨u.toNat, by omega⟩
  obtain ⟨V, hV⟩ : ∃ V, V = D * Y + U := ⟨_, rfl⟩
  have hVl : D * Y + U ≤ 18446744069414584320 := by
    have h1 := Nat.mul_le_mul (show D ≤ 4294967295 by omega) (show Y ≤ 4294967295 by omega)
    omega
  conv => cbv
  refine ⟨Lm, fun x => ⟨[(26, .v (.int .i64 x.j)), (25, .v (.int .i64 (ofN k))), (24, .v (.slice b k e)), (8, .v (.int .u64 x.q)), (7, .v (.int .u32 d)), (6, .v (.int .i64 ii)), (19, .v (.int .i64 ii)), (18, .v (.int .i64 (ofN n))), (17, .v (.slice a n c)), (1, .v (.slice b k e)), (5, .v (.slice (some az) W W))], R, [], 0, [⟨some az, W, W, 68, 1, x.zs⟩]⟩,
    fun m' x => (m' = 1 ∧ x.j = 0 ∧ x.q = 0 ∧ x.zs = zs) ∨ (m' = 0 ∧ x.j = 1 ∧ x.q = (V / 4294967296 : Nat) ∧ x.zs = ints .u32 (ys.set i ((V % 4294967296 : Nat) : Int))),
    ⟨1, ⟨0, 0, zs⟩, ⟨⟨rfl, rfl, rfl, rfl, rfl, rfl, rfl, rfl, rfl, rfl, rfl, trivial⟩, rfl, trivial, rfl, .refl _⟩, .inl ⟨rfl, rfl, rfl, rfl⟩⟩, ?_⟩
  rintro m' ⟨jj, qq, z1⟩ hx
  simp only at hx
  conv => cbv
  rcases hx with ⟨hm', hj, hqq, rfl⟩ | ⟨hm', hj, hqq, hz1⟩
  · refine br_t (by rw [ok, cmp_lss hA]; simp; omega) ?_
    conv => cbv
    refine ix_ri h2 ok 0 hj (by omega) ?_
    refine ld_ri hA h2 (by omega) (by omega) ?_
    intro y hy hyw
    have hyY : y = Y := by rw [hy, hj]; rfl
    conv => cbv
    have ei : bin .add .i64 ii jj = (i : Int) := by rw [hi, hj, add_i64 hA (by omega)]; omega
    refine ⟨by rw [ei]; omega, by rw [ei, oW]; omega, rfl, ?_⟩
    refine ld_row hA 0 (r := ⟨some az, W, W, 68, 1, z1⟩) rfl rfl rfl (v := .int .u32 u) (by show z1[_]? = _; rw [ei, hzs, ints, List.getElem?_map, Int.toNat_natCast, hu]; rfl) ?_
    conv => cbv
    have em : bin .mul .u64 (cnv .u64 d) (cnv .u64 y) = ((D * Y : Nat) : Int) := by
      rw [hdv, hyY, cnv_u64 hA (by omega), cnv_u64 hA (by omega), mul_u64 hA ⟨by rw [← Int.natCast_mul]; exact Int.natCast_nonneg _, by rw [← Int.natCast_mul]; omega⟩, Int.natCast_mul]
    have ev : bin .add .u64 qq (bin .add .u64 (bin .mul .u64 (cnv .u64 d) (cnv .u64 y)) (cnv .u64 u)) = (V : Int) := by
      have e1 : bin .add .u64 (bin .mul .u64 (cnv .u64 d) (cnv .u64 y)) (cnv .u64 u) = (V : Int) := by
        rw [em, hU, cnv_u64 hA (by omega), add_u64 hA (by omega), hV]
        omega
      rw [e1, hqq, add_u64 hA (by omega), Int.zero_add]
    have e2 : cnv .u32 (bin .add .u64 qq (bin .add .u64 (bin .mul .u64 (cnv .u64 d) (cnv .u64 y)) (cnv .u64 u))) = ((V % 4294967296 : Nat) : Int) := by
      rw [ev]
      exact cu32 (cnv_is hA) V
    refine ⟨by rw [ei]; omega, by rw [ei, oW]; omega, rfl, ?_⟩
    refine ⟨0, _, az, i, rfl, rfl, by rw [elem_is hA, ei]; show az.add (((i : Nat) : Int).toNat * 1) = _; rw [Nat.mul_one, Int.toNat_natCast], by show i + 1 ≤ z1.length; rw [hzs, ints_len, hyl]; omega, ?_⟩
    intro z2 hz2
    have hz2' : z2 = ints .u32 (ys.set i ((V % 4294967296 : Nat) : Int)) := by
      rw [hz2]
      show List.take i z1 ++ [Value.int .u32 _] ++ List.drop (i + 1) z1 = _
      rw [hzs, e2]
      exact ints_set _ _ _ _ (by omega)
    conv => cbv
    refine ⟨by decide, ?_⟩
    refine ⟨0, ⟨bin .add .i64 jj 1, bin .shr .u64 (bin .add .u64 qq (bin .add .u64 (bin .mul .u64 (cnv .u64 d) (cnv .u64 y)) (cnv .u64 u))) 32, z2⟩, by omega, ⟨⟨rfl, rfl, rfl, rfl, rfl, rfl, rfl, rfl, rfl, rfl, rfl, trivial⟩, rfl, trivial, rfl, .refl _⟩, .inr ⟨rfl, ?_, ?_, hz2'⟩⟩
    · show bin .add .i64 jj 1 = 1
      rw [hj, add_i64 hA (by omega)]
      rfl
    · show bin .shr .u64 (bin .add .u64 qq (bin .add .u64 (bin .mul .u64 (cnv .u64 d) (cnv .u64 y)) (cnv .u64 u))) 32 = ((V / 4294967296 : Nat) : Int)
      rw [ev, shr_u64 hA (by decide)]
      show (V : Int) / 2 ^ 32 = _
      omega
  refine br_f (by rw [ok, cmp_lss hA]; simp; omega) ?_
  conv => cbv
  have ei1 : bin .add .i64 ii (ofN k) = ((i + 1 : Nat) : Int) := by rw [hi, ok, hk, add_i64 hA (by omega)]; rfl
  refine ⟨by rw [ei1]; omega, by rw [ei1, oW]; omega, rfl, ?_⟩
  refine ⟨0, _, az, i + 1, rfl, rfl, by rw [elem_is hA, ei1]; show az.add (((i + 1 : Nat) : Int).toNat * 1) = _; rw [Nat.mul_one, Int.toNat_natCast], by show i + 1 + 1 ≤ z1.length; rw [hz1, ints_len]; simp; omega, ?_⟩
  intro z3 hz3
  have hV32 : V / 4294967296 < 4294967296 := by omega
  have e3 : cnv .u32 qq = ((V / 4294967296 : Nat) : Int) := by rw [hqq]; exact cnv_u32 hA (by omega)
  have hz3' : z3 = ints .u32 ((ys.set i ((V % 4294967296 : Nat) : Int)).set (i + 1) ((V / 4294967296 : Nat) : Int)) := by
    rw [hz3]
    show List.take (i + 1) z1 ++ [Value.int .u32 _] ++ List.drop (i + 1 + 1) z1 = _
    rw [hz1, e3]
    exact ints_set _ _ _ _ (by simp; omega)
  conv => cbv
  refine ⟨n - (i + 1), ⟨bin .add .i64 ii 1, z3⟩, by omega, ⟨⟨rfl, rfl, rfl, rfl, rfl, trivial⟩, rfl, trivial, rfl, .refl _⟩, i + 1, _, by show bin .add .i64 ii 1 = _; rw [hi, add_i64 hA (by omega)]; rfl, by omega, rfl, hz3', by simp [hyl], dg_set (dg_set hyd i (by omega)) (i + 1) (by omega), ?_, ?_⟩
  · have g1 := nv_set2 i u ((V % 4294967296 : Nat) : Int) hu
    have h5 : (ys.set i ((V % 4294967296 : Nat) : Int))[i + 1]? = some 0 := by rw [List.getElem?_set, if_neg (by omega)]; exact hy0 (i + 1) (by omega) (by omega)
    have g2 := nv_set (i + 1) 0 ((V / 4294967296 : Nat) : Int) h5 (by decide) (by omega)
    rw [Int.zero_add, Int.toNat_natCast] at g2
    rw [Int.toNat_natCast, hU, Int.toNat_natCast] at g1
    rw [g2]
    have h6 : V % 4294967296 * 4294967296 ^ i + V / 4294967296 * 4294967296 ^ (i + 1) = V * 4294967296 ^ i := by
      rw [Nat.pow_succ, Nat.mul_comm (4294967296 ^ i) 4294967296, ← Nat.mul_assoc, ← Nat.add_mul]
      congr 1
      omega
    have h7 : V * 4294967296 ^ i = D * Y * 4294967296 ^ i + U * 4294967296 ^ i := by rw [hV, Nat.add_mul]
    have h8 : X % 4294967296 ^ (i + 1) * Y = X % 4294967296 ^ i * Y + D * Y * 4294967296 ^ i := by
      rw [Nat.pow_succ, Nat.mod_mul, ← hD, Nat.add_mul, Nat.mul_comm (4294967296 ^ i) D, Nat.mul_assoc D, Nat.mul_comm (4294967296 ^ i) Y, ← Nat.mul_assoc]
    rw [h8]
    omega
  · intro j h1 h3
    rw [List.getElem?_set, if_neg (by omega), List.getElem?_set, if_neg (by omega)]
    exact hy0 j (by omega) h3
end Go.Proofs.YtepfbdfbfimefaaDoor.Co
