/- Great numbers: over one digit. -/
import Derived.Test.YtepfbdfbfimefaaDoorCoc
import Derived.Test.YtepfbdfbfimefaaDoorSl
import Derived.Test.YtepfbdfbfimefaaDoorProg
import Derived.KernelRfl
-- merged
/- The types that some functions name, as the evaluator wants them. Printed by a program of my own (seatgen.py). -/
namespace Go.Proofs.YtepfbdfbfimefaaDoor.Tynd
open Go Go.Se Go.Proofs

/-- int -/
def y3 : Ty := ⟨.int .i64, 1, false, .int .i64 0, 8⟩
theorem ty3 : tyOf Tryd.prog 3 = some y3 := by kernel_rfl
/-- uint64 -/
def y33 : Ty := ⟨.int .u64, 1, false, .int .u64 0, 8⟩
theorem ty33 : tyOf Tryd.prog 33 = some y33 := by kernel_rfl
/-- big.nat -/
def y48 : Ty := ⟨.slc 68, 1, false, .slice none 0 0, 24⟩
theorem ty48 : tyOf Tryd.prog 48 = some y48 := by kernel_rfl
/-- uint32 -/
def y68 : Ty := ⟨.int .u32, 1, false, .int .u32 0, 4⟩
theorem ty68 : tyOf Tryd.prog 68 = some y68 := by kernel_rfl

/-- function 55: (pub-mintmark/pub/smallbig.nat).divW -/
def tys55 : Nat → Option Ty := fun t => find [(48, y48), (68, y68), (3, y3), (33, y33)] t
theorem ok55 : TysOk Tryd.prog tys55 := tysOk_of ⟨ty48, ty68, ty3, ty33, trivial⟩
end Go.Proofs.YtepfbdfbfimefaaDoor.Tynd
set_option linter.unusedSimpArgs false
set_option linter.unusedVariables false
namespace Go.Proofs.YtepfbdfbfimefaaDoor.Co
open Go Go.Se Go.Proofs Go.Proofs.YtepfbdfbfimefaaDoor.Tynd

theorem nv_set2 : ∀ {ds : List Int} (i : Nat) (d e : Int), ds[i]? = some d → nv (ds.set i e) + d.toNat * 4294967296 ^ i = nv ds + e.toNat * 4294967296 ^ i
  | d :: ds, 0, y, e, h => by
    simp at h
    subst h
    rw [List.set_cons_zero, nv, nv, Nat.pow_zero, Nat.mul_one, Nat.mul_one]
    omega
  | d :: ds, i + 1, y, e, h => by
    have ih := nv_set2 (ds := ds) i y e (by simpa using h)
    rw [List.set_cons_succ, nv, nv, Nat.pow_succ]
    have h1 : ∀ z : Nat, z * (4294967296 ^ i * 4294967296) = 4294967296 * (z * 4294967296 ^ i) := fun z => by rw [← Nat.mul_assoc, Nat.mul_comm]
    rw [h1, h1]
    omega

section
variable {bin : BinOp → IntKind → Int → Int → Int} {cmp : BinOp → Int → Int → Bool} {cnv : IntKind → Int → Int} {neg : IntKind → Int → Int} {com : IntKind → Int → Int} {bnot : Bool → Bool} {beq : Bool → Bool → Bool} {ofN : Nat → Int} {toN : Int → Nat} {at_ : Nat → Nat → Nat → Nat} {sub_ : Nat → Nat → Nat} {scmp : BinOp → ByteArray → ByteArray → Bool} {cat : ByteArray → ByteArray → ByteArray} {sget : ByteArray → Int → Int} {ssz : ByteArray → Nat} {ssub : ByteArray → Nat → Nat → ByteArray} {elem : Option Addr → Int → Nat → Addr} {fld_ : Addr → Nat → Addr}
  (hA : (⟨bin, cmp, cnv, neg, com, bnot, beq, ofN, toN, at_, sub_, scmp, cat, sget, ssz, ssub, elem, fld_⟩ : Ar) = Ar.real)
include hA

theorem or_low {c d : Nat} (hc : c < 4294967296) (hd : d < 4294967296) : bin .or .u64 (bin .shl .u64 (c : Int) 32) (d : Int) = ((c * 4294967296 + d : Nat) : Int) := by
  have e1 := shw_u64 hA (x := c) (y := 32) (by decide)
  rw [Nat.mod_eq_of_lt (by omega)] at e1
  refine (congrArg (fun z => bin .or .u64 z (d : Int)) e1).trans ?_
  rw [or_u64 hA (by omega) (by omega), show c * 2 ^ 32 = 2 ^ 32 * c by rw [Nat.mul_comm], ← Nat.two_pow_add_eq_or_of_lt (by omega)]
end

structure Ld where
  i : Int
  q : Int
  zs : List Value

set_option maxRecDepth 100000 in
set_option maxHeartbeats 2000000 in
theorem divWP {P : Program} (hP : P = Tryd.prog) (R : RO) (a : Option Addr) (n c X : Nat) (h : RI R .u32 a n (cn X)) (hc : n ≤ c) (hn : n ≤ 10000) (Y : Nat) (yi : Int) (hyi : yi = Y) (hY : 1 ≤ Y) (hYl : Y < 4294967296) :
    RetP P 55 [.slice a n c, .int .u32 yi] R fun R' r => ∃ a' n' c' l, r = .tuple #[.slice a' n' c', .int .u32 l] ∧ l = (X % Y : Nat) ∧ RI R' .u32 a' n' (cn (X / Y)) ∧ n' ≤ c' := by
  subst hP
  have hl := h.len
  have hXn := cn_lt X
  rw [← hl] at hXn
  refine retP_vc (fz := []) Tryd.func55 rfl (by decide) rfl ok55 ?_
  intro P bin cmp cnv neg com bnot beq ofN toN at_ sub_ scmp cat sget ssz ssub elem fld_ hP hA
  conv => cbv
  have o := ofN_ hA n
  refine ⟨by rw [o]; omega, by omega, by rw [o]; omega, by rw [o]; omega, ?_⟩
  intro az nz cz z hnz hcz hz
  obtain rfl : n = nz := by omega
  obtain rfl : n = cz := by omega
  rw [zeros] at hz
  have es : bin .sub .i64 (ofN n) 1 = (n : Int) - 1 := by rw [o]; exact sub_i64 hA (by omega)
  have ey : cnv .u64 yi = (Y : Int) := by rw [hyi]; exact cnv_u64 hA (by omega)
  conv => cbv
  refine ⟨Ld, fun x => ⟨[(8, .v (.int .i64 x.i)), (7, .v (.int .u64 x.q)), (6, .v (.slice (some az) n n)), (0, .v (.slice a n c)), (1, .v (.int .u32 yi))], R, [], 0, [⟨some az, n, n, 68, 1, x.zs⟩]⟩,
    fun m x => ∃ (p q : Nat) (ys : List Int), x.i = (n : Int) - 1 - p ∧ p ≤ n ∧ m = n - p ∧ x.q = (q : Nat) ∧ x.zs = ints .u32 ys ∧ ys.length = n ∧ Dg ys ∧ nv ys = X / 4294967296 ^ (n - p) / Y * 4294967296 ^ (n - p) ∧ q = X / 4294967296 ^ (n - p) % Y ∧ ∀ j, j < n - p → ys[j]? = some 0,
    ⟨n, ⟨bin .sub .i64 (ofN n) 1, 0, z⟩, ⟨⟨rfl, rfl, rfl, rfl, rfl, trivial⟩, rfl, trivial, rfl, .refl _⟩, 0, 0, _, by show bin .sub .i64 (ofN n) 1 = _; rw [es]; simp, by omega, rfl, rfl, hz, by simp, dg_zero _, by rw [nv_zero, Nat.sub_zero, Nat.div_eq_of_lt hXn]; simp, by rw [Nat.sub_zero, Nat.div_eq_of_lt hXn]; simp, fun j hj => by rw [List.getElem?_replicate, if_pos (by omega)]⟩, ?_⟩
  rintro m ⟨ii, qi, zs⟩ ⟨p, q, ys, hi, hp, hm, hq, hzs, hyl, hyd, hyv, hqv, hy0⟩
  simp only at hi hq hzs
  conv => cbv
  by_cases hlt : p < n
  case neg =>
    refine br_f (by rw [cmp_geq hA]; simp; omega) ?_
    conv => cbv
    have h0 : n - p = 0 := by omega
    rw [h0, Nat.pow_zero, Nat.div_one] at hyv hqv
    rw [Nat.mul_one] at hyv
    refine CallP.pub 0 rfl (fun R1 hR1 hp1 => ?_) ⟨_, by rw [hP]; exact Tryd.func36, by decide, rfl⟩
    have hr1 : RI R1 .u32 (some az) n ys := hp1.ri hyl.symm (fun _ => rfl) rfl hzs hyd.wf
    refine (normP hP R1 (some az) n n ys hr1 (Nat.le_refl _) (by omega)).callP rfl ?_
    rintro R2 _ hR2 ⟨a', n', c', rfl, hr, hc'⟩
    conv => cbv
    intro ρ R'' hle _ _
    have hq32 : q < 4294967296 := by rw [hqv]; exact Nat.lt_trans (Nat.mod_lt _ (by omega)) hYl
    exact ⟨a', n', c', _, rfl, by rw [← hqv, hq]; exact cnv_u32 hA (by omega), by rw [← hyv]; exact hr.le hle, hc'⟩
  refine br_t (by rw [cmp_geq hA]; simp; omega) ?_
  conv => cbv
  obtain ⟨k, hk⟩ : ∃ k, k = n - 1 - p := ⟨_, rfl⟩
  have hnp : n - p = k + 1 := by omega
  have hik : ii = k := by omega
  rw [hnp] at hyv hqv hy0
  refine ⟨by decide, ?_⟩
  refine ix_ri h o k hik (by omega) ?_
  refine ld_ri hA h (by omega) (by omega) ?_
  intro d hd hdw
  have hd' : (cn X)[k]? = some d := by rw [getD_get (by omega), hd]; congr 2; omega
  have hdv := cn_get hd'
  obtain ⟨D, hD⟩ : ∃ D, D = X / 4294967296 ^ k % 4294967296 := ⟨_, rfl⟩
  rw [← hD] at hdv
  obtain ⟨H, hH⟩ : ∃ H, H = X / 4294967296 ^ (k + 1) := ⟨_, rfl⟩
  rw [← hH] at hyv hqv
  have hHk : X / 4294967296 ^ k = H * 4294967296 + D := by
    rw [hH, Nat.pow_succ, ← Nat.div_div_eq_div_mul, hD]
    omega
  have hqY : q < Y := by rw [hqv]; exact Nat.mod_lt _ (by omega)
  conv => cbv
  have ec : bin .or .u64 (bin .shl .u64 qi 32) (cnv .u64 d) = ((q * 4294967296 + D : Nat) : Int) := by
    rw [hq, hdv, cnv_u64 hA (by omega)]
    exact or_low hA (by omega) (by omega)
  obtain ⟨C, hC⟩ : ∃ C, C = q * 4294967296 + D := ⟨_, rfl⟩
  rw [← hC] at ec
  have hCl : C < 18446744073709551616 := by omega
  have hCY : C / Y < 4294967296 := by
    rw [Nat.div_lt_iff_lt_mul (by omega)]
    have : (q + 1) * 4294967296 ≤ Y * 4294967296 := Nat.mul_le_mul_right _ hqY
    omega
  have hdivs : (H * 4294967296 + D) / Y = H / Y * 4294967296 + C / Y ∧ (H * 4294967296 + D) % Y = C % Y := by
    have h1 := Nat.div_add_mod H Y
    have h2 : H * 4294967296 + D = Y * (H / Y * 4294967296) + C := by
      rw [hC, hqv]
      have h3 : H * 4294967296 = Y * (H / Y) * 4294967296 + H % Y * 4294967296 := by rw [← Nat.add_mul, h1]
      rw [h3, Nat.mul_assoc]
      omega
    rw [h2]
    exact ⟨Nat.mul_add_div (by omega) _ _, Nat.mul_add_mod _ _ _⟩
  refine ⟨by omega, ?_⟩
  have eq1 : cnv .u32 (bin .quo .u64 (bin .or .u64 (bin .shl .u64 qi 32) (cnv .u64 d)) (cnv .u64 yi)) = ((C / Y : Nat) : Int) := by
    have e2 : bin .quo .u64 (bin .or .u64 (bin .shl .u64 qi 32) (cnv .u64 d)) (cnv .u64 yi) = ((C / Y : Nat) : Int) := by
      rw [ec, ey, quo_u64 hA (by omega) (by omega) (by omega)]
      exact (Int.natCast_ediv _ _).symm
    rw [e2]
    have h5 : ∀ Q : Nat, Q < 4294967296 → cnv .u32 (Q : Int) = (Q : Int) := fun Q hQ => cnv_u32 hA (by omega)
    exact h5 _ hCY
  have er1 : bin .rem .u64 (bin .or .u64 (bin .shl .u64 qi 32) (cnv .u64 d)) (cnv .u64 yi) = ((C % Y : Nat) : Int) := by
    rw [ec, ey, rem_u64 hA (by omega)]
    exact (Int.natCast_emod _ _).symm
  refine ⟨by omega, by rw [o]; omega, rfl, ?_⟩
  refine ⟨0, _, az, k, rfl, rfl, by rw [elem_is hA, hik]; show az.add (((k : Nat) : Int).toNat * 1) = _; rw [Nat.mul_one, Int.toNat_natCast], by show k + 1 ≤ zs.length; rw [hzs, ints_len, hyl]; omega, ?_⟩
  intro zs' hzs'
  have hyk : ys[k]? = some 0 := hy0 k (by omega)
  have hz' : zs' = ints .u32 (ys.set k ((C / Y : Nat) : Int)) := by
    rw [hzs']
    show List.take k zs ++ [Value.int .u32 _] ++ List.drop (k + 1) zs = _
    rw [hzs, eq1]
    exact ints_set _ _ _ _ (by omega)
  conv => cbv
  refine ⟨by omega, ?_⟩
  have hr32 : ∀ Q : Nat, Q < 4294967296 → 0 ≤ (Q : Int) ∧ (Q : Int) < 4294967296 := fun Q hQ => by omega
  refine ⟨n - (p + 1), ⟨bin .sub .i64 ii 1, bin .rem .u64 (bin .or .u64 (bin .shl .u64 qi 32) (cnv .u64 d)) (cnv .u64 yi), zs'⟩, by omega, ⟨⟨rfl, rfl, rfl, rfl, rfl, trivial⟩, rfl, trivial, rfl, .refl _⟩, p + 1, C % Y, _, ?_, by omega, rfl, er1, hz', by simp [hyl], dg_set hyd k (hr32 _ hCY), ?_, ?_, ?_⟩
  · show bin .sub .i64 ii 1 = (n : Int) - 1 - ((p + 1 : Nat) : Int)
    rw [hi, sub_i64 hA (by omega)]
    omega
  · have h1 := nv_set k 0 ((C / Y : Nat) : Int) hyk (by decide) (Int.natCast_nonneg _)
    rw [Int.zero_add, Int.toNat_natCast] at h1
    rw [h1, hyv, show n - (p + 1) = k by omega, hHk, hdivs.1, Nat.add_mul, Nat.pow_succ]
    congr 1
    rw [Nat.mul_assoc, Nat.mul_comm 4294967296]
  · rw [show n - (p + 1) = k by omega, hHk, hdivs.2]
  · intro j hj
    rw [List.getElem?_set, if_neg (by omega)]
    exact hy0 j (by omega)
end Go.Proofs.YtepfbdfbfimefaaDoor.Co
