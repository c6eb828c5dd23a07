/- Great numbers: over one digit. -/
/- The types that some functions name, as the evaluator wants them. Printed by a program of my own (seatgen.py). -/
/- Great numbers: times one digit. -/
/- The types that some functions name, as the evaluator wants them. Printed by a program of my own (seatgen.py). -/
/- Great numbers: compared; over another of one digit. -/
/- The types that some functions name, as the evaluator wants them. Printed by a program of my own (seatgen.py). -/
import Derived.Test.YtepfbdfbfimefaaDoorMTynd
import Derived.Test.YtepfbdfbfimefaaDoorSl
import Derived.Test.YtepfbdfbfimefaaDoorProg
import Derived.KernelRfl
section
set_option linter.unusedSimpArgs false
set_option linter.unusedVariables false
namespace Go.Proofs.YtepfbdfbfimefaaDoor.Co
open Go Go.Se Go.Proofs Go.Proofs.YtepfbdfbfimefaaDoor.Tynd

theorem nv_set2 : ∀ {ds : List Int} (i : Nat) (d e : Int), ds[i]? = some d → nv (ds.set i e) + d.toNat * 4294967296 ^ i = nv ds + e.toNat * 4294967296 ^ i
  | d :: ds, 0, y, e, h => by
    simp at h
    subst h
    rw [List.set_cons_zero, nv, nv, Nat.pow_zero, Nat.mul_one, Nat.mul_one]
    omega
  | d :: ds, i + 1, y, e, h => by
    have ih := nv_set2 (ds := ds) i y e (by simpa using h)
    rw [List.set_cons_succ, nv, nv, Nat.pow_succ]
    have h1 : ∀ z : Nat, z * (4294967296 ^ i * 4294967296) = 4294967296 * (z * 4294967296 ^ i) := fun z => by rw [← Nat.mul_assoc, Nat.mul_comm]
    rw [h1, h1]
    omega

section
variable {bin : BinOp → IntKind → Int → Int → Int} {cmp : BinOp → Int → Int → Bool} {cnv : IntKind → Int → Int} {neg : IntKind → Int → Int} {com : IntKind → Int → Int} {bnot : Bool → Bool} {beq : Bool → Bool → Bool} {ofN : Nat → Int} {toN : Int → Nat} {at_ : Nat → Nat → Nat → Nat} {sub_ : Nat → Nat → Nat} {scmp : BinOp → ByteArray → ByteArray → Bool} {cat : ByteArray → ByteArray → ByteArray} {sget : ByteArray → Int → Int} {ssz : ByteArray → Nat} {ssub : ByteArray → Nat → Nat → ByteArray} {elem : Option Addr → Int → Nat → Addr} {fld_ : Addr → Nat → Addr}
  (hA : (⟨bin, cmp, cnv, neg, com, bnot, beq, ofN, toN, at_, sub_, scmp, cat, sget, ssz, ssub, elem, fld_⟩ : Ar) = Ar.real)
include hA

theorem or_low {c d : Nat} (hc : c < 4294967296) (hd : d < 4294967296) : bin .or .u64 (bin .shl .u64 (c : Int) 32) (d : Int) = ((c * 4294967296 + d : Nat) : Int) := by
  have e1 := shw_u64 hA (x := c) (y := 32) (by decide)
  rw [Nat.mod_eq_of_lt (by omega)] at e1
  refine (congrArg (fun z => bin .or .u64 z (d : Int)) e1).trans ?_
  rw [or_u64 hA (by omega) (by omega), show c * 2 ^ 32 = 2 ^ 32 * c by rw [Nat.mul_comm], ← Nat.two_pow_add_eq_or_of_lt (by omega)]
end

structure Ld where
  i : Int
  q : Int
  zs : List Value

set_option maxRecDepth 100000 in
set_option maxHeartbeats 2000000 in
theorem divWP {P : Program} (hP : P = Tryd.prog) (R : RO) (a : Option Addr) (n c X : Nat) (h : RI R .u32 a n (cn X)) (hc : n ≤ c) (hn : n ≤ 10000) (Y : Nat) (yi : Int) (hyi : yi = Y) (hY : 1 ≤ Y) (hYl : Y < 4294967296) :
    RetP P 55 [.slice a n c, .int .u32 yi] R fun R' r => ∃ a' n' c' l, r = .tuple #[.slice a' n' c', .int .u32 l] ∧ l = (X % Y : Nat) ∧ RI R' .u32 a' n' (cn (X / Y)) ∧ n' ≤ c' := by
  subst hP
  have hl := h.len
  have hXn := cn_lt X
  rw [← hl] at hXn
  refine retP_vc (fz := []) Tryd.func55 rfl (by decide) rfl ok55 ?_
  intro P bin cmp cnv neg com bnot beq ofN toN at_ sub_ scmp cat sget ssz ssub elem fld_ hP hA
  conv => cbv
  have o := ofN_ hA n
  refine ⟨by rw [o]; omega, by omega, by rw [o]; omega, by rw [o]; omega, ?_⟩
  intro az nz cz z hnz hcz hz
  obtain rfl : n = nz := by omega
  obtain rfl : n = cz := by omega
  rw [zeros] at hz
  have es : bin .sub .i64 (ofN n) 1 = (n : Int) - 1 := by rw [o]; exact sub_i64 hA (by omega)
  have ey : cnv .u64 yi = (Y : Int) := by rw [hyi]; exact cnv_u64 hA (by omega)
  conv => cbv
  refine ⟨Ld, fun x => ⟨[(8, .v (.int .i64 x.i)), (7, .v (.int .u64 x.q)), (6, .v (.slice (some az) n n)), (0, .v (.slice a n c)), (1, .v (.int .u32 yi))], R, [], 0, [⟨some az, n, n, 68, 1, x.zs⟩]⟩,
    fun m x => ∃ (p q : Nat) (ys : List Int), x.i = (n : Int) - 1 - p ∧ p ≤ n ∧ m = n - p ∧ x.q = (q : Nat) ∧ x.zs = ints .u32 ys ∧ ys.length = n ∧ Dg ys ∧ nv ys = X / 4294967296 ^ (n - p) / Y * 4294967296 ^ (n - p) ∧ q = X / 4294967296 ^ (n - p) % Y ∧ ∀ j, j < n - p → ys[j]? = some 0,
    ⟨n, ⟨bin .sub .i64 (ofN n) 1, 0, z⟩, ⟨⟨rfl, rfl, rfl, rfl, rfl, trivial⟩, rfl, trivial, rfl, .refl _⟩, 0, 0, _, by show bin .sub .i64 (ofN n) 1 = _; rw [es]; simp, by omega, rfl, rfl, hz, by simp, dg_zero _, by rw [nv_zero, Nat.sub_zero, Nat.div_eq_of_lt hXn]; simp, by rw [Nat.sub_zero, Nat.div_eq_of_lt hXn]; simp, fun j hj => by rw [List.getElem?_replicate, if_pos (by omega)]⟩, ?_⟩
  rintro m ⟨ii, qi, zs⟩ ⟨p, q, ys, hi, hp, hm, hq, hzs, hyl, hyd, hyv, hqv, hy0⟩
  simp only at hi hq hzs
  conv => cbv
  by_cases hlt : p < n
  case neg =>
    refine br_f (by rw [cmp_geq hA]; simp; omega) ?_
    conv => cbv
    have h0 : n - p = 0 := by omega
    rw [h0, Nat.pow_zero, Nat.div_one] at hyv hqv
    rw [Nat.mul_one] at hyv
    refine CallP.pub 0 rfl (fun R1 hR1 hp1 => ?_) ⟨_, by rw [hP]; exact Tryd.func36, by decide, rfl⟩
    have hr1 : RI R1 .u32 (some az) n ys := hp1.ri hyl.symm (fun _ => rfl) rfl hzs hyd.wf
    refine (normP hP R1 (some az) n n ys hr1 (Nat.le_refl _) (by omega)).callP rfl ?_
    rintro R2 _ hR2 ⟨a', n', c', rfl, hr, hc'⟩
    conv => cbv
    intro ρ R'' hle _ _
    have hq32 : q < 4294967296 := by rw [hqv]; exact Nat.lt_trans (Nat.mod_lt _ (by omega)) hYl
    exact ⟨a', n', c', _, rfl, by rw [← hqv, hq]; exact cnv_u32 hA (by omega), by rw [← hyv]; exact hr.le hle, hc'⟩
  refine br_t (by rw [cmp_geq hA]; simp; omega) ?_
  conv => cbv
  obtain ⟨k, hk⟩ : ∃ k, k = n - 1 - p := ⟨_, rfl⟩
  have hnp : n - p = k + 1 := by omega
  have hik : ii = k := by omega
  rw [hnp] at hyv hqv hy0
  refine ⟨by decide, ?_⟩
  refine ix_ri h o k hik (by omega) ?_
  refine ld_ri hA h (by omega) (by omega) ?_
  intro d hd hdw
  have hd' : (cn X)[k]? = some d := by rw [getD_get (by omega), hd]; congr 2; omega
  have hdv := cn_get hd'
  obtain ⟨D, hD⟩ : ∃ D, D = X / 4294967296 ^ k % 4294967296 := ⟨_, rfl⟩
  rw [← hD] at hdv
  obtain ⟨H, hH⟩ : ∃ H, H = X / 4294967296 ^ (k + 1) := ⟨_, rfl⟩
  rw [← hH] at hyv hqv
  have hHk : X / 4294967296 ^ k = H * 4294967296 + D := by
    rw [hH, Nat.pow_succ, ← Nat.div_div_eq_div_mul, hD]
    omega
  have hqY : q < Y := by rw [hqv]; exact Nat.mod_lt _ (by omega)
  conv => cbv
  have ec : bin .or .u64 (bin .shl .u64 qi 32) (cnv .u64 d) = ((q * 4294967296 + D : Nat) : Int) := by
    rw [hq, hdv, cnv_u64 hA (by omega)]
    exact or_low hA (by omega) (by omega)
  obtain ⟨C, hC⟩ : ∃ C, C = q * 4294967296 + D := ⟨_, rfl⟩
  rw [← hC] at ec
  have hCl : C < 18446744073709551616 := by omega
  have hCY : C / Y < 4294967296 := by
    rw [Nat.div_lt_iff_lt_mul (by omega)]
    have : (q + 1) * 4294967296 ≤ Y * 4294967296 := Nat.mul_le_mul_right _ hqY
    omega
  have hdivs : (H * 4294967296 + D) / Y = H / Y * 4294967296 + C / Y ∧ (H * 4294967296 + D) % Y = C % Y := by
    have h1 := Nat.div_add_mod H Y
    have h2 : H * 4294967296 + D = Y * (H / Y * 4294967296) + C := by
      rw [hC, hqv]
      have h3 : H * 4294967296 = Y * (H / Y) * 4294967296 + H % Y * 4294967296 := by rw [← Nat.add_mul, h1]
      rw [h3, Nat.mul_assoc]
      omega
    rw [h2]
    exact ⟨Nat.mul_add_div (by omega) _ _, Nat.mul_add_mod _ _ _⟩
  refine ⟨by omega, ?_⟩
  have eq1 : cnv .u32 (bin .quo .u64 (bin .or .u64 (bin .shl .u64 qi 32) (cnv .u64 d)) (cnv .u64 yi)) = ((C / Y : Nat) : Int) := by
    have e2 : bin .quo .u64 (bin .or .u64 (bin .shl .u64 qi 32) (cnv .u64 d)) (cnv .u64 yi) = ((C / Y : Nat) : Int) := by
      rw [ec, ey, quo_u64 hA (by omega) (by omega) (by omega)]
      exact (Int.natCast_ediv _ _).symm
    rw [e2]
    have h5 : ∀ Q : Nat, Q < 4294967296 → cnv .u32 (Q : Int) = (Q : Int) := fun Q hQ => cnv_u32 hA (by omega)
    exact h5 _ hCY
  have er1 : bin .rem .u64 (bin .or .u64 (bin .shl .u64 qi 32) (cnv .u64 d)) (cnv .u64 yi) = ((C % Y : Nat) : Int) := by
    rw [ec, ey, rem_u64 hA (by omega)]
    exact (Int.natCast_emod _ _).symm
  refine ⟨by omega, by rw [o]; omega, rfl, ?_⟩
  refine ⟨0, _, az, k, rfl, rfl, by rw [elem_is hA, hik]; show az.add (((k : Nat) : Int).toNat * 1) = _; rw [Nat.mul_one, Int.toNat_natCast], by show k + 1 ≤ zs.length; rw [hzs, ints_len, hyl]; omega, ?_⟩
  intro zs' hzs'
  have hyk : ys[k]? = some 0 := hy0 k (by omega)
  have hz' : zs' = ints .u32 (ys.set k ((C / Y : Nat) : Int)) := by
    rw [hzs']
    show List.take k zs ++ [Value.int .u32 _] ++ List.drop (k + 1) zs = _
    rw [hzs, eq1]
    exact ints_set _ _ _ _ (by omega)
  conv => cbv
  refine ⟨by omega, ?_⟩
  have hr32 : ∀ Q : Nat, Q < 4294967296 → 0 ≤ (Q : Int) ∧ (Q : Int) < 4294967296 := fun Q hQ => by omega
  refine ⟨n - (p + 1), ⟨bin .sub .i64 ii 1, bin .rem .u64 (bin .or .u64 (bin .shl .u64 qi 32) (cnv .u64 d)) (cnv .u64 yi), zs'⟩, by omega, ⟨⟨rfl, rfl, rfl, rfl, rfl, trivial⟩, rfl, trivial, rfl, .refl _⟩, p + 1, C % Y, _, ?_, by omega, rfl, er1, hz', by simp [hyl], dg_set hyd k (hr32 _ hCY), ?_, ?_, ?_⟩
  · show bin .sub .i64 ii 1 = (n : Int) - 1 - ((p + 1 : Nat) : Int)
    rw [hi, sub_i64 hA (by omega)]
    omega
  · have h1 := nv_set k 0 ((C / Y : Nat) : Int) hyk (by decide) (Int.natCast_nonneg _)
    rw [Int.zero_add, Int.toNat_natCast] at h1
    rw [h1, hyv, show n - (p + 1) = k by omega, hHk, hdivs.1, Nat.add_mul, Nat.pow_succ]
    congr 1
    rw [Nat.mul_assoc, Nat.mul_comm 4294967296]
  · rw [show n - (p + 1) = k by omega, hHk, hdivs.2]
  · intro j hj
    rw [List.getElem?_set, if_neg (by omega)]
    exact hy0 j (by omega)
end Go.Proofs.YtepfbdfbfimefaaDoor.Co
end
section
namespace Go.Proofs.YtepfbdfbfimefaaDoor.Tyne
open Go Go.Se Go.Proofs

/-- int -/
def y3 : Ty := ⟨.int .i64, 1, false, .int .i64 0, 8⟩
theorem ty3 : tyOf Tryd.prog 3 = some y3 := by kernel_rfl
/-- uint64 -/
def y33 : Ty := ⟨.int .u64, 1, false, .int .u64 0, 8⟩
theorem ty33 : tyOf Tryd.prog 33 = some y33 := by kernel_rfl
/-- big.nat -/
def y48 : Ty := ⟨.slc 68, 1, false, .slice none 0 0, 24⟩
theorem ty48 : tyOf Tryd.prog 48 = some y48 := by kernel_rfl
/-- uint32 -/
def y68 : Ty := ⟨.int .u32, 1, false, .int .u32 0, 4⟩
theorem ty68 : tyOf Tryd.prog 68 = some y68 := by kernel_rfl

/-- function 42: (pub-mintmark/pub/smallbig.nat).mul -/
def tys42 : Nat → Option Ty := fun t => find [(48, y48), (68, y68), (3, y3), (33, y33)] t
theorem ok42 : TysOk Tryd.prog tys42 := tysOk_of ⟨ty48, ty68, ty3, ty33, trivial⟩
end Go.Proofs.YtepfbdfbfimefaaDoor.Tyne
end
section
set_option linter.unusedSimpArgs false
set_option linter.unusedVariables false
namespace Go.Proofs.YtepfbdfbfimefaaDoor.Co
open Go Go.Se Go.Proofs Go.Proofs.YtepfbdfbfimefaaDoor.Tyne

structure Lm where
  j : Int
  q : Int
  zs : List Value

set_option maxRecDepth 100000 in
set_option maxHeartbeats 4000000 in
theorem mulP {P : Program} (hP : P = Tryd.prog) (R : RO) (a b : Option Addr) (n c k e X Y : Nat) (h : RI R .u32 a n (cn X)) (hn : n ≤ 10000) (h2 : RI R .u32 b k (cn Y)) (hY0 : Y ≠ 0) (hY : Y < 4294967296) :
    RetP P 42 [.slice a n c, .slice b k e] R fun R' r => ∃ a' n' c', r = .slice a' n' c' ∧ RI R' .u32 a' n' (cn (X * Y)) ∧ n' ≤ c' := by
  subst hP
  rw [cn_one hY0 hY] at h2
  have hk : k = 1 := h2.len
  have hl := h.len
  have hXn := cn_lt X
  rw [← hl] at hXn
  refine retP_vc (fz := []) Tryd.func42 rfl (by decide) rfl ok42 ?_
  intro P bin cmp cnv neg com bnot beq ofN toN at_ sub_ scmp cat sget ssz ssub elem fld_ hP hA
  conv => cbv
  have o := ofN_ hA n
  have ok := ofN_ hA k
  have el : bin .add .i64 (ofN n) (ofN k) = ((n + 1 : Nat) : Int) := by rw [o, ok, add_i64 hA (by omega)]; omega
  refine ⟨by rw [el]; omega, by rw [el]; omega, by rw [el]; omega, by rw [el]; omega, ?_⟩
  intro az nz cz z hnz hcz hz
  rw [el] at hnz hcz
  obtain ⟨W, hW⟩ : ∃ W, W = n + 1 := ⟨_, rfl⟩
  obtain rfl : W = nz := by omega
  obtain rfl : W = cz := by omega
  rw [zeros] at hz
  have oW := ofN_ hA W
  conv => cbv
  refine ⟨Lz, fun x => ⟨[(19, .v (.int .i64 x.i)), (18, .v (.int .i64 (ofN n))), (17, .v (.slice a n c)), (1, .v (.slice b k e)), (5, .v (.slice (some az) W W))], R, [], 0, [⟨some az, W, W, 68, 1, x.zs⟩]⟩,
    fun m x => ∃ (i : Nat) (ys : List Int), x.i = i ∧ i ≤ n ∧ m = n - i ∧ x.zs = ints .u32 ys ∧ ys.length = W ∧ Dg ys ∧ nv ys = X % 4294967296 ^ i * Y ∧ ∀ j, i < j → j < W → ys[j]? = some 0,
    ⟨n, ⟨0, z⟩, ⟨⟨rfl, rfl, rfl, rfl, rfl, trivial⟩, rfl, trivial, rfl, .refl _⟩, 0, _, rfl, by omega, rfl, hz, by simp, dg_zero _, by rw [nv_zero]; simp [Nat.mod_one], fun j _ hj => by rw [List.getElem?_replicate, if_pos hj]⟩, ?_⟩
  rintro m ⟨ii, zs⟩ ⟨i, ys, hi, hin, hm, hzs, hyl, hyd, hyv, hy0⟩
  simp only at hi hzs
  conv => cbv
  by_cases hlt : i < n
  case neg =>
    refine br_f (by rw [o, cmp_lss hA]; simp; omega) ?_
    conv => cbv
    have hnX : nv ys = X * Y := by rw [hyv, show i = n by omega, Nat.mod_eq_of_lt hXn]
    refine CallP.pub 0 rfl (fun R1 hR1 hp1 => ?_) ⟨_, by rw [hP]; exact Tryd.func36, by decide, rfl⟩
    have hr1 : RI R1 .u32 (some az) W ys := hp1.ri hyl.symm (fun _ => rfl) rfl hzs hyd.wf
    refine (normP hP R1 (some az) W W ys hr1 (Nat.le_refl _) (by omega)).callP rfl ?_
    rintro R2 _ hR2 ⟨a', n', c', rfl, hr, hc'⟩
    conv => cbv
    intro ρ R'' hle _ _
    exact ⟨a', n', c', rfl, by rw [← hnX]; exact hr.le hle, hc'⟩
  refine br_t (by rw [o, cmp_lss hA]; simp; omega) ?_
  conv => cbv
  refine ix_ri h o i hi hlt ?_
  refine ld_ri hA h (by omega) (by omega) ?_
  intro d hd hdw
  have hd' : (cn X)[i]? = some d := by rw [getD_get (by omega), hd]; congr 2; omega
  have hdv := cn_get hd'
  obtain ⟨D, hD⟩ : ∃ D, D = X / 4294967296 ^ i % 4294967296 := ⟨_, rfl⟩
  rw [← hD] at hdv
  have hDl : D < 4294967296 := by omega
  obtain ⟨u, hu⟩ : ∃ u, ys[i]? = some u := ⟨_, List.getElem?_eq_getElem (by omega)⟩
  have hur := hyd u (List.mem_of_getElem? hu)
  obtain ⟨U, hU⟩ : ∃ U : Nat, u = U := ⟨u.toNat, by omega⟩
  obtain ⟨V, hV⟩ : ∃ V, V = D * Y + U := ⟨_, rfl⟩
  have hVl : D * Y + U ≤ 18446744069414584320 := by
    have h1 := Nat.mul_le_mul (show D ≤ 4294967295 by omega) (show Y ≤ 4294967295 by omega)
    omega
  conv => cbv
  refine ⟨Lm, fun x => ⟨[(26, .v (.int .i64 x.j)), (25, .v (.int .i64 (ofN k))), (24, .v (.slice b k e)), (8, .v (.int .u64 x.q)), (7, .v (.int .u32 d)), (6, .v (.int .i64 ii)), (19, .v (.int .i64 ii)), (18, .v (.int .i64 (ofN n))), (17, .v (.slice a n c)), (1, .v (.slice b k e)), (5, .v (.slice (some az) W W))], R, [], 0, [⟨some az, W, W, 68, 1, x.zs⟩]⟩,
    fun m' x => (m' = 1 ∧ x.j = 0 ∧ x.q = 0 ∧ x.zs = zs) ∨ (m' = 0 ∧ x.j = 1 ∧ x.q = (V / 4294967296 : Nat) ∧ x.zs = ints .u32 (ys.set i ((V % 4294967296 : Nat) : Int))),
    ⟨1, ⟨0, 0, zs⟩, ⟨⟨rfl, rfl, rfl, rfl, rfl, rfl, rfl, rfl, rfl, rfl, rfl, trivial⟩, rfl, trivial, rfl, .refl _⟩, .inl ⟨rfl, rfl, rfl, rfl⟩⟩, ?_⟩
  rintro m' ⟨jj, qq, z1⟩ hx
  simp only at hx
  conv => cbv
  rcases hx with ⟨hm', hj, hqq, rfl⟩ | ⟨hm', hj, hqq, hz1⟩
  · refine br_t (by rw [ok, cmp_lss hA]; simp; omega) ?_
    conv => cbv
    refine ix_ri h2 ok 0 hj (by omega) ?_
    refine ld_ri hA h2 (by omega) (by omega) ?_
    intro y hy hyw
    have hyY : y = Y := by rw [hy, hj]; rfl
    conv => cbv
    have ei : bin .add .i64 ii jj = (i : Int) := by rw [hi, hj, add_i64 hA (by omega)]; omega
    refine ⟨by rw [ei]; omega, by rw [ei, oW]; omega, rfl, ?_⟩
    refine ld_row hA 0 (r := ⟨some az, W, W, 68, 1, z1⟩) rfl rfl rfl (v := .int .u32 u) (by show z1[_]? = _; rw [ei, hzs, ints, List.getElem?_map, Int.toNat_natCast, hu]; rfl) ?_
    conv => cbv
    have em : bin .mul .u64 (cnv .u64 d) (cnv .u64 y) = ((D * Y : Nat) : Int) := by
      rw [hdv, hyY, cnv_u64 hA (by omega), cnv_u64 hA (by omega), mul_u64 hA ⟨by rw [← Int.natCast_mul]; exact Int.natCast_nonneg _, by rw [← Int.natCast_mul]; omega⟩, Int.natCast_mul]
    have ev : bin .add .u64 qq (bin .add .u64 (bin .mul .u64 (cnv .u64 d) (cnv .u64 y)) (cnv .u64 u)) = (V : Int) := by
      have e1 : bin .add .u64 (bin .mul .u64 (cnv .u64 d) (cnv .u64 y)) (cnv .u64 u) = (V : Int) := by
        rw [em, hU, cnv_u64 hA (by omega), add_u64 hA (by omega), hV]
        omega
      rw [e1, hqq, add_u64 hA (by omega), Int.zero_add]
    have e2 : cnv .u32 (bin .add .u64 qq (bin .add .u64 (bin .mul .u64 (cnv .u64 d) (cnv .u64 y)) (cnv .u64 u))) = ((V % 4294967296 : Nat) : Int) := by
      rw [ev]
      exact cu32 (cnv_is hA) V
    refine ⟨by rw [ei]; omega, by rw [ei, oW]; omega, rfl, ?_⟩
    refine ⟨0, _, az, i, rfl, rfl, by rw [elem_is hA, ei]; show az.add (((i : Nat) : Int).toNat * 1) = _; rw [Nat.mul_one, Int.toNat_natCast], by show i + 1 ≤ z1.length; rw [hzs, ints_len, hyl]; omega, ?_⟩
    intro z2 hz2
    have hz2' : z2 = ints .u32 (ys.set i ((V % 4294967296 : Nat) : Int)) := by
      rw [hz2]
      show List.take i z1 ++ [Value.int .u32 _] ++ List.drop (i + 1) z1 = _
      rw [hzs, e2]
      exact ints_set _ _ _ _ (by omega)
    conv => cbv
    refine ⟨by decide, ?_⟩
    refine ⟨0, ⟨bin .add .i64 jj 1, bin .shr .u64 (bin .add .u64 qq (bin .add .u64 (bin .mul .u64 (cnv .u64 d) (cnv .u64 y)) (cnv .u64 u))) 32, z2⟩, by omega, ⟨⟨rfl, rfl, rfl, rfl, rfl, rfl, rfl, rfl, rfl, rfl, rfl, trivial⟩, rfl, trivial, rfl, .refl _⟩, .inr ⟨rfl, ?_, ?_, hz2'⟩⟩
    · show bin .add .i64 jj 1 = 1
      rw [hj, add_i64 hA (by omega)]
      rfl
    · show bin .shr .u64 (bin .add .u64 qq (bin .add .u64 (bin .mul .u64 (cnv .u64 d) (cnv .u64 y)) (cnv .u64 u))) 32 = ((V / 4294967296 : Nat) : Int)
      rw [ev, shr_u64 hA (by decide)]
      show (V : Int) / 2 ^ 32 = _
      omega
  refine br_f (by rw [ok, cmp_lss hA]; simp; omega) ?_
  conv => cbv
  have ei1 : bin .add .i64 ii (ofN k) = ((i + 1 : Nat) : Int) := by rw [hi, ok, hk, add_i64 hA (by omega)]; rfl
  refine ⟨by rw [ei1]; omega, by rw [ei1, oW]; omega, rfl, ?_⟩
  refine ⟨0, _, az, i + 1, rfl, rfl, by rw [elem_is hA, ei1]; show az.add (((i + 1 : Nat) : Int).toNat * 1) = _; rw [Nat.mul_one, Int.toNat_natCast], by show i + 1 + 1 ≤ z1.length; rw [hz1, ints_len]; simp; omega, ?_⟩
  intro z3 hz3
  have hV32 : V / 4294967296 < 4294967296 := by omega
  have e3 : cnv .u32 qq = ((V / 4294967296 : Nat) : Int) := by rw [hqq]; exact cnv_u32 hA (by omega)
  have hz3' : z3 = ints .u32 ((ys.set i ((V % 4294967296 : Nat) : Int)).set (i + 1) ((V / 4294967296 : Nat) : Int)) := by
    rw [hz3]
    show List.take (i + 1) z1 ++ [Value.int .u32 _] ++ List.drop (i + 1 + 1) z1 = _
    rw [hz1, e3]
    exact ints_set _ _ _ _ (by simp; omega)
  conv => cbv
  refine ⟨n - (i + 1), ⟨bin .add .i64 ii 1, z3⟩, by omega, ⟨⟨rfl, rfl, rfl, rfl, rfl, trivial⟩, rfl, trivial, rfl, .refl _⟩, i + 1, _, by show bin .add .i64 ii 1 = _; rw [hi, add_i64 hA (by omega)]; rfl, by omega, rfl, hz3', by simp [hyl], dg_set (dg_set hyd i (by omega)) (i + 1) (by omega), ?_, ?_⟩
  · have g1 := nv_set2 i u ((V % 4294967296 : Nat) : Int) hu
    have h5 : (ys.set i ((V % 4294967296 : Nat) : Int))[i + 1]? = some 0 := by rw [List.getElem?_set, if_neg (by omega)]; exact hy0 (i + 1) (by omega) (by omega)
    have g2 := nv_set (i + 1) 0 ((V / 4294967296 : Nat) : Int) h5 (by decide) (by omega)
    rw [Int.zero_add, Int.toNat_natCast] at g2
    rw [Int.toNat_natCast, hU, Int.toNat_natCast] at g1
    rw [g2]
    have h6 : V % 4294967296 * 4294967296 ^ i + V / 4294967296 * 4294967296 ^ (i + 1) = V * 4294967296 ^ i := by
      rw [Nat.pow_succ, Nat.mul_comm (4294967296 ^ i) 4294967296, ← Nat.mul_assoc, ← Nat.add_mul]
      congr 1
      omega
    have h7 : V * 4294967296 ^ i = D * Y * 4294967296 ^ i + U * 4294967296 ^ i := by rw [hV, Nat.add_mul]
    have h8 : X % 4294967296 ^ (i + 1) * Y = X % 4294967296 ^ i * Y + D * Y * 4294967296 ^ i := by
      rw [Nat.pow_succ, Nat.mod_mul, ← hD, Nat.add_mul, Nat.mul_comm (4294967296 ^ i) D, Nat.mul_assoc D, Nat.mul_comm (4294967296 ^ i) Y, ← Nat.mul_assoc]
    rw [h8]
    omega
  · intro j h1 h3
    rw [List.getElem?_set, if_neg (by omega), List.getElem?_set, if_neg (by omega)]
    exact hy0 j (by omega) h3
end Go.Proofs.YtepfbdfbfimefaaDoor.Co
end
section
namespace Go.Proofs.YtepfbdfbfimefaaDoor.Tynf
open Go Go.Se Go.Proofs

/-- int -/
def y3 : Ty := ⟨.int .i64, 1, false, .int .i64 0, 8⟩
theorem ty3 : tyOf Tryd.prog 3 = some y3 := by kernel_rfl
/-- string -/
def y9 : Ty := ⟨.str, 1, false, .string ByteArray.empty, 16⟩
theorem ty9 : tyOf Tryd.prog 9 = some y9 := by kernel_rfl
/-- uint64 -/
def y33 : Ty := ⟨.int .u64, 1, false, .int .u64 0, 8⟩
theorem ty33 : tyOf Tryd.prog 33 = some y33 := by kernel_rfl
/-- big.nat -/
def y48 : Ty := ⟨.slc 68, 1, false, .slice none 0 0, 24⟩
theorem ty48 : tyOf Tryd.prog 48 = some y48 := by kernel_rfl
/-- uint32 -/
def y68 : Ty := ⟨.int .u32, 1, false, .int .u32 0, 4⟩
theorem ty68 : tyOf Tryd.prog 68 = some y68 := by kernel_rfl
/-- uint -/
def y82 : Ty := ⟨.int .u64, 1, false, .int .u64 0, 8⟩
theorem ty82 : tyOf Tryd.prog 82 = some y82 := by kernel_rfl

/-- function 49: (pub-mintmark/pub/smallbig.nat).div -/
def tys49 : Nat → Option Ty := fun t => find [(48, y48), (68, y68), (3, y3), (9, y9), (33, y33), (82, y82)] t
theorem ok49 : TysOk Tryd.prog tys49 := tysOk_of ⟨ty48, ty68, ty3, ty9, ty33, ty82, trivial⟩

/-- function 50: (pub-mintmark/pub/smallbig.nat).cmp -/
def tys50 : Nat → Option Ty := fun t => find [(48, y48), (68, y68), (3, y3)] t
theorem ok50 : TysOk Tryd.prog tys50 := tysOk_of ⟨ty48, ty68, ty3, trivial⟩
end Go.Proofs.YtepfbdfbfimefaaDoor.Tynf
end
section
set_option linter.unusedSimpArgs false
set_option linter.unusedVariables false
namespace Go.Proofs.YtepfbdfbfimefaaDoor.Co
open Go Go.Se Go.Proofs Go.Proofs.YtepfbdfbfimefaaDoor.Tynf

theorem mix2 {P : Program} (hP : P = Tryd.prog) : P.follows .mixedOrders = true := by subst hP; rfl

theorem cn_lt_of {X Y : Nat} (h : (cn X).length < (cn Y).length) : X < Y := by
  have hY : Y ≠ 0 := fun e => by rw [e, cn0] at h; simp at h
  have h1 := cn_lt X
  obtain ⟨h2, h3⟩ := cn_len Y hY
  exact Nat.lt_of_lt_of_le h1 (Nat.le_trans (Nat.pow_le_pow_right (by decide) (by omega)) h3)

theorem digit_lt {X Y B P : Nat} (hB : 0 < B) (hP : X / B / 4294967296 = Y / B / 4294967296) (hlt : X / B % 4294967296 < Y / B % 4294967296) : X < Y := by
  have h1 : X / B < Y / B := by omega
  exact Nat.lt_of_not_le fun h2 => by
    have := Nat.div_le_div_right (c := B) h2
    omega



set_option maxRecDepth 100000 in
set_option maxHeartbeats 2000000 in
theorem cmpN {P : Program} (hP : P = Tryd.prog) (R : RO) (a b : Option Addr) (n c k e X Y : Nat) (h : RI R .u32 a n (cn X)) (hn : n ≤ 10000) (h2 : RI R .u32 b k (cn Y)) (hk : k ≤ 10000) :
    RetP P 50 [.slice a n c, .slice b k e] R fun _ r => ∃ ci : Int, r = .int .i64 ci ∧ ((ci < 0 ↔ X < Y) ∧ (0 < ci ↔ Y < X)) := by
  subst hP
  have hl := h.len
  have hl2 := h2.len
  refine retP_vc (fz := []) Tryd.func50 rfl (by decide) rfl ok50 ?_
  intro P bin cmp cnv neg com bnot beq ofN toN at_ sub_ scmp cat sget ssz ssub elem fld_ hP hA
  conv => cbv
  have o := ofN_ hA n
  have o2 := ofN_ hA k
  by_cases hnk : n = k
  case neg =>
    refine br_t (by rw [o, o2, cmp_neq hA]; exact bne_iff_ne.2 (by omega)) ?_
    conv => cbv
    by_cases hlt : n < k
    · refine br_t (by rw [o, o2, cmp_lss hA]; simp; omega) ?_
      conv => cbv
      have := cn_lt_of (X := X) (Y := Y) (by omega)
      intro ρ R'' _ _ _
      exact ⟨-1, rfl, ⟨⟨fun _ => this, fun _ => by decide⟩, ⟨fun e => absurd e (by decide), fun e => by omega⟩⟩⟩
    refine br_f (by rw [o, o2, cmp_lss hA]; simp; omega) ?_
    conv => cbv
    have := cn_lt_of (X := Y) (Y := X) (by omega)
    intro ρ R'' _ _ _
    exact ⟨1, rfl, ⟨⟨fun e => absurd e (by decide), fun e => by omega⟩, ⟨fun _ => this, fun _ => by decide⟩⟩⟩
  refine br_f (by rw [o, o2, cmp_neq hA, hnk]; simp) ?_
  conv => cbv
  have es : bin .sub .i64 (ofN n) 1 = (n : Int) - 1 := by rw [o]; exact sub_i64 hA (by omega)
  have hX := cn_lt X
  have hY := cn_lt Y
  rw [← hl] at hX
  rw [← hl2, ← hnk] at hY
  refine ⟨Int, fun x => ⟨[(5, .v (.int .i64 x)), (0, .v (.slice a n c)), (1, .v (.slice b k e))], R, [], 0, []⟩, fun m x => x = (m : Int) - 1 ∧ m ≤ n ∧ X / 4294967296 ^ m = Y / 4294967296 ^ m,
    ⟨n, bin .sub .i64 (ofN n) 1, ⟨⟨rfl, rfl, rfl, trivial⟩, rfl, trivial, rfl, .refl _⟩, es, Nat.le_refl _, by rw [Nat.div_eq_of_lt hX, Nat.div_eq_of_lt hY]⟩, ?_⟩
  rintro m x ⟨hx, hm, heq⟩
  conv => cbv
  by_cases h0 : m = 0
  · refine br_f (by rw [cmp_geq hA]; simp; omega) ?_
    conv => cbv
    rw [h0, Nat.pow_zero, Nat.div_one, Nat.div_one] at heq
    intro ρ R'' _ _ _
    exact ⟨0, rfl, ⟨⟨fun e => absurd e (by decide), fun e => by omega⟩, ⟨fun e => absurd e (by decide), fun e => by omega⟩⟩⟩
  refine br_t (by rw [cmp_geq hA]; simp; omega) ?_
  conv => cbv
  obtain ⟨i, hmi⟩ : ∃ i, m = i + 1 := ⟨m - 1, by omega⟩
  have hi : x = i := by omega
  rw [hmi, Nat.pow_succ, ← Nat.div_div_eq_div_mul, ← Nat.div_div_eq_div_mul] at heq
  have hB := Nat.pow_pos (n := i) (show 0 < 4294967296 by decide)
  refine ⟨[0, 1, 2, 3, 4, 5, 6, 7, 8], [], mix2 hP, by kernel_rfl, ?_⟩
  conv => cbv
  refine ix_ri h o i hi (by omega) ?_
  refine ld_ri hA h (by omega) (by omega) ?_
  intro d1 hd1 _
  have hd1' : d1 = ((X / 4294967296 ^ i % 4294967296 : Nat) : Int) := by
    refine cn_get ?_
    rw [getD_get (by omega), hd1]
    congr 2
    omega
  conv => cbv
  refine ix_ri h2 o2 i hi (by omega) ?_
  refine ld_ri hA h2 (by omega) (by omega) ?_
  intro d2 hd2 _
  have hd2' : d2 = ((Y / 4294967296 ^ i % 4294967296 : Nat) : Int) := by
    refine cn_get ?_
    rw [getD_get (by omega), hd2]
    congr 2
    omega
  conv => cbv
  by_cases hd : X / 4294967296 ^ i % 4294967296 = Y / 4294967296 ^ i % 4294967296
  · refine br_f (by rw [cmp_neq hA, hd1', hd2', hd]; simp) ?_
    conv => cbv
    refine ⟨i, bin .sub .i64 x 1, by omega, ⟨⟨rfl, rfl, rfl, trivial⟩, rfl, trivial, rfl, .refl _⟩, by rw [hi]; exact sub_i64 hA (by omega), by omega, by omega⟩
  refine br_t (by rw [cmp_neq hA, hd1', hd2']; exact bne_iff_ne.2 fun e => hd (Int.ofNat_inj.1 e)) ?_
  conv => cbv
  clear hd1 hd2 hd1' hd2'
  refine ⟨[0, 1, 2, 3, 4, 5, 6, 7, 8], [], mix2 hP, by kernel_rfl, ?_⟩
  conv => cbv
  refine ix_ri h o i hi (by omega) ?_
  refine ld_ri hA h (by omega) (by omega) ?_
  intro d1 hd1 _
  have hd1' : d1 = ((X / 4294967296 ^ i % 4294967296 : Nat) : Int) := by
    refine cn_get ?_
    rw [getD_get (by omega), hd1]
    congr 2
    omega
  conv => cbv
  refine ix_ri h2 o2 i hi (by omega) ?_
  refine ld_ri hA h2 (by omega) (by omega) ?_
  intro d2 hd2 _
  have hd2' : d2 = ((Y / 4294967296 ^ i % 4294967296 : Nat) : Int) := by
    refine cn_get ?_
    rw [getD_get (by omega), hd2]
    congr 2
    omega
  conv => cbv
  by_cases hlt : X / 4294967296 ^ i % 4294967296 < Y / 4294967296 ^ i % 4294967296
  · refine br_t (by rw [cmp_lss hA, hd1', hd2']; exact decide_eq_true (Int.ofNat_lt.2 hlt)) ?_
    conv => cbv
    have := digit_lt (P := 0) hB heq hlt
    intro ρ R'' _ _ _
    exact ⟨-1, rfl, ⟨⟨fun _ => this, fun _ => by decide⟩, ⟨fun e => absurd e (by decide), fun e => by omega⟩⟩⟩
  refine br_f (by rw [cmp_lss hA, hd1', hd2']; exact decide_eq_false fun e => hlt (Int.ofNat_lt.1 e)) ?_
  conv => cbv
  have := digit_lt (P := 0) hB heq.symm (Nat.lt_of_le_of_ne (Nat.le_of_not_lt hlt) (Ne.symm hd))
  intro ρ R'' _ _ _
  exact ⟨1, rfl, ⟨⟨fun e => absurd e (by decide), fun e => by omega⟩, ⟨fun _ => this, fun _ => by decide⟩⟩⟩

set_option maxRecDepth 100000 in
set_option maxHeartbeats 2000000 in
theorem divP {P : Program} (hP : P = Tryd.prog) (R : RO) (a b : Option Addr) (n c k e X Y : Nat) (h : RI R .u32 a n (cn X)) (hc : n ≤ c) (hn : n ≤ 10000) (h2 : RI R .u32 b k (cn Y)) (hY0 : Y ≠ 0) (hY : Y < 4294967296) :
    RetP P 49 [.slice a n c, .slice b k e] R fun R' r => ∃ a' n' c' b' k' e', r = .tuple #[.slice a' n' c', .slice b' k' e'] ∧ RI R' .u32 a' n' (cn (X / Y)) ∧ n' ≤ c' ∧ RI R' .u32 b' k' (cn (X % Y)) ∧ k' ≤ e' := by
  subst hP
  have hk : k = 1 := by rw [h2.len, cn_one hY0 hY]; rfl
  refine retP_vc (fz := []) Tryd.func49 rfl (by decide) rfl ok49 ?_
  intro P bin cmp cnv neg com bnot beq ofN toN at_ sub_ scmp cat sget ssz ssub elem fld_ hP hA
  conv => cbv
  have ok := ofN_ hA k
  refine br_f (by rw [ok, cmp_eql hA]; simp; omega) ?_
  conv => cbv
  refine (cmpN hP R a b n c k e X Y h hn h2 (by omega)).callQ rfl ?_
  rintro _ ⟨ci, rfl, hci, -⟩
  conv => cbv
  by_cases hlt : X < Y
  · refine br_t (by rw [cmp_lss hA]; exact decide_eq_true (hci.2 hlt)) ?_
    conv => cbv
    intro ρ R'' hle _ _
    exact ⟨none, 0, 0, a, n, c, rfl, by rw [Nat.div_eq_of_lt hlt, cn0]; exact RI.nil, Nat.le_refl _, by rw [Nat.mod_eq_of_lt hlt]; exact h.le hle, hc⟩
  refine br_f (by rw [cmp_lss hA]; exact decide_eq_false fun e => hlt (hci.1 e)) ?_
  conv => cbv
  refine br_t (by rw [ok, cmp_eql hA]; simp; omega) ?_
  conv => cbv
  refine ix_ri h2 ok 0 rfl (by omega) ?_
  refine ld_ri hA h2 (by omega) (by omega) ?_
  intro y hy hyw
  have hyY : y = Y := by rw [hy, cn_one hY0 hY]; rfl
  conv => cbv
  refine (divWP hP R a n c X h hc hn Y y hyY (by omega) hY).callP rfl ?_
  rintro R1 _ hR1 ⟨a', n', c', l, rfl, hlv, hr, hc'⟩
  conv => cbv
  have hm : X % Y < 4294967296 := Nat.lt_trans (Nat.mod_lt _ (by omega)) hY
  have el : cnv .u64 l = ((X % Y : Nat) : Int) := by
    rw [hlv]
    have h5 : ∀ Q : Nat, Q < 4294967296 → cnv .u64 (Q : Int) = (Q : Int) := fun Q hQ => cnv_u64 hA (by omega)
    exact h5 _ hm
  refine (natOfP hP R1 (X % Y) _ el (by omega)).callP rfl ?_
  rintro R2 _ hR2 ⟨b', k', e', rfl, hr2, he'⟩
  conv => cbv
  intro ρ R'' hle _ _
  exact ⟨a', n', c', b', k', e', rfl, hr.le (RO.le_trans hR2 hle), hc', hr2.le hle, he'⟩
end Go.Proofs.YtepfbdfbfimefaaDoor.Co
end
section
namespace Go.Proofs.YtepfbdfbfimefaaDoor.Tyea
open Go Go.Se Go.Proofs

/-- int -/
def y3 : Ty := ⟨.int .i64, 1, false, .int .i64 0, 8⟩
theorem ty3 : tyOf Tryd.prog 3 = some y3 := by kernel_rfl
/-- uint64 -/
def y33 : Ty := ⟨.int .u64, 1, false, .int .u64 0, 8⟩
theorem ty33 : tyOf Tryd.prog 33 = some y33 := by kernel_rfl
/-- big.nat -/
def y48 : Ty := ⟨.slc 68, 1, false, .slice none 0 0, 24⟩
theorem ty48 : tyOf Tryd.prog 48 = some y48 := by kernel_rfl
/-- uint32 -/
def y68 : Ty := ⟨.int .u32, 1, false, .int .u32 0, 4⟩
theorem ty68 : tyOf Tryd.prog 68 = some y68 := by kernel_rfl
/-- uint -/
def y82 : Ty := ⟨.int .u64, 1, false, .int .u64 0, 8⟩
theorem ty82 : tyOf Tryd.prog 82 = some y82 := by kernel_rfl

/-- function 56: (pub-mintmark/pub/smallbig.nat).lsh -/
def tys56 : Nat → Option Ty := fun t => find [(48, y48), (68, y68), (3, y3), (82, y82), (33, y33)] t
theorem ok56 : TysOk Tryd.prog tys56 := tysOk_of ⟨ty48, ty68, ty3, ty82, ty33, trivial⟩
end Go.Proofs.YtepfbdfbfimefaaDoor.Tyea
end
