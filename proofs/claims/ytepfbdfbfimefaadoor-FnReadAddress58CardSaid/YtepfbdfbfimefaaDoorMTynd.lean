/- The types that some functions name, as the evaluator wants them. Printed by a program of my own (seatgen.py). -/
/- Great numbers: shifted. -/
/- Long division by two digits: plain. -/
/- The types that some functions name, as the evaluator wants them. Printed by a program of my own (seatgen.py). -/
import Derived.Test.YtepfbdfbfimefaaDoorSl
import Derived.Test.YtepfbdfbfimefaaDoorProg
import Derived.KernelRfl
import Derived.Test.YtepfbdfbfimefaaDoorMCob
section
namespace Go.Proofs.YtepfbdfbfimefaaDoor.Tycp
open Go Go.Se Go.Proofs

/-- int -/
def y3 : Ty := ⟨.int .i64, 1, false, .int .i64 0, 8⟩
theorem ty3 : tyOf Tryd.prog 3 = some y3 := by kernel_rfl
/-- uint64 -/
def y33 : Ty := ⟨.int .u64, 1, false, .int .u64 0, 8⟩
theorem ty33 : tyOf Tryd.prog 33 = some y33 := by kernel_rfl
/-- big.nat -/
def y48 : Ty := ⟨.slc 68, 1, false, .slice none 0 0, 24⟩
theorem ty48 : tyOf Tryd.prog 48 = some y48 := by kernel_rfl
/-- uint32 -/
def y68 : Ty := ⟨.int .u32, 1, false, .int .u32 0, 4⟩
theorem ty68 : tyOf Tryd.prog 68 = some y68 := by kernel_rfl
/-- uint -/
def y82 : Ty := ⟨.int .u64, 1, false, .int .u64 0, 8⟩
theorem ty82 : tyOf Tryd.prog 82 = some y82 := by kernel_rfl

/-- function 43: pub-mintmark/pub/smallbig.natOf -/
def tys43 : Nat → Option Ty := fun t => find [(33, y33), (68, y68), (48, y48)] t
theorem ok43 : TysOk Tryd.prog tys43 := tysOk_of ⟨ty33, ty68, ty48, trivial⟩

/-- function 56: (pub-mintmark/pub/smallbig.nat).lsh -/
def tys56 : Nat → Option Ty := fun t => find [(48, y48), (68, y68), (3, y3), (82, y82), (33, y33)] t
theorem ok56 : TysOk Tryd.prog tys56 := tysOk_of ⟨ty48, ty68, ty3, ty82, ty33, trivial⟩

/-- function 57: (pub-mintmark/pub/smallbig.nat).rsh -/
def tys57 : Nat → Option Ty := fun t => find [(82, y82), (48, y48), (68, y68), (3, y3), (33, y33)] t
theorem ok57 : TysOk Tryd.prog tys57 := tysOk_of ⟨ty82, ty48, ty68, ty3, ty33, trivial⟩
end Go.Proofs.YtepfbdfbfimefaaDoor.Tycp
end
section
set_option linter.unusedSimpArgs false
set_option linter.unusedVariables false
namespace Go.Proofs.YtepfbdfbfimefaaDoor.Co
open Go Go.Se Go.Proofs Go.Proofs.YtepfbdfbfimefaaDoor.Tycp
open Go.Proofs.YtepfbdfbfimefaaDoor.Vr (or32 or64)

theorem zeros (k : IntKind) (n : Nat) : (List.replicate n [Value.int k 0]).flatten = ints k (List.replicate n 0) := by
  induction n with
  | zero => rfl
  | succ n ih => rw [List.replicate_succ, List.flatten_cons, ih, List.replicate_succ]; rfl

theorem ints_set (k : IntKind) (ys : List Int) (i : Nat) (e : Int) (h : i < ys.length) : (ints k ys).take i ++ [Value.int k e] ++ (ints k ys).drop (i + 1) = ints k (ys.set i e) := by
  rw [List.set_eq_take_append_cons_drop, if_pos h]
  simp [ints, List.map_take, List.map_drop]

theorem mod2 (Y s : Nat) (hs : s < 32) : Y % 18446744073709551616 / 2 ^ s % 4294967296 = Y / 2 ^ s % 4294967296 := by
  rw [show 18446744073709551616 = 2 ^ s * 2 ^ (64 - s) by rw [← Nat.pow_add, show s + (64 - s) = 64 by omega], Nat.mod_mul, Nat.add_mul_div_left _ _ (Nat.pow_pos (by decide)), Nat.div_eq_of_lt (Nat.mod_lt _ (Nat.pow_pos (by decide))), Nat.zero_add]
  rw [show 2 ^ (64 - s) = 4294967296 * 2 ^ (32 - s) by rw [show 4294967296 = 2 ^ 32 by decide, ← Nat.pow_add, show 32 + (32 - s) = 64 - s by omega], Nat.mod_mul_right_mod]

structure Lz where
  i : Int
  zs : List Value

section
variable {cnv : IntKind → Int → Int} (hc : cnv = Ar.real.conv)
include hc
theorem cu32 (x : Nat) : cnv .u32 x = ((x % 4294967296 : Nat) : Int) := by
  rw [hc]
  show IntKind.u32.wrap (x : Int) = _
  simp [IntKind.wrap, IntKind.bits, IntKind.signed]
end

set_option maxRecDepth 100000 in
set_option maxHeartbeats 2000000 in
theorem rshP {P : Program} (hP : P = Tryd.prog) (R : RO) (a : Option Addr) (n c V N : Nat) (Ni : Int) (hNi : Ni = N) (h : RI R .u32 a n (cn V)) (hc : n ≤ c) (hn : n ≤ 10000) (hN : N ≤ 10000) :
    RetP P 57 [.slice a n c, .int .u64 Ni] R fun R' r => ∃ a' n' c', r = .slice a' n' c' ∧ RI R' .u32 a' n' (cn (V / 2 ^ N)) ∧ n' ≤ c' := by
  subst hP
  have hl := h.len
  refine retP_vc (fz := []) Tryd.func57 rfl (by decide) rfl ok57 ?_
  intro P bin cmp cnv neg com bnot beq ofN toN at_ sub_ scmp cat sget ssz ssub elem fld_ hP hA
  conv => cbv
  have o := ofN_ hA n
  refine ⟨by decide, ?_⟩
  refine ⟨by decide, ?_⟩
  obtain ⟨w, hw⟩ : ∃ w, w = N / 32 := ⟨_, rfl⟩
  obtain ⟨s, hs⟩ : ∃ s, s = N % 32 := ⟨_, rfl⟩
  have hNw : N = 32 * w + s := by omega
  have ew : bin .quo .u64 Ni 32 = (w : Int) := by rw [hNi, quo_u64 hA (by omega) (by omega) (by decide)]; omega
  have ess : bin .rem .u64 Ni 32 = (s : Int) := by rw [hNi, rem_u64 hA (by omega)]; omega
  have eo : cnv .u64 (ofN n) = (n : Int) := by rw [o]; exact cnv_u64 hA (by omega)
  have hVn := cn_lt V
  rw [← hl] at hVn
  by_cases hge : n ≤ w
  · refine br_t (by rw [ew, eo, cmp_geq hA]; simp; omega) ?_
    conv => cbv
    intro ρ R'' _ _ _
    refine ⟨none, 0, 0, rfl, ?_, Nat.le_refl _⟩
    have e0 : V / 2 ^ N = 0 := Nat.div_eq_of_lt (Nat.lt_of_lt_of_le hVn (by rw [pw]; exact Nat.pow_le_pow_right (by decide) (by omega)))
    rw [e0, cn0]
    exact RI.nil
  refine br_f (by rw [ew, eo, cmp_geq hA]; simp; omega) ?_
  conv => cbv
  refine ⟨w, n, ew.symm, rfl, by omega, hc, ?_⟩
  intro a1 n1 c1 hn1 hc1 ha1
  have h1 := h.part' (l := w) (m := n) (by omega) (Nat.le_refl _) hn1 hc ha1
  obtain ⟨U, hU⟩ : ∃ U, U = V / 4294967296 ^ w := ⟨_, rfl⟩
  have e1 : ((cn V).drop w).take (n - w) = cn U := by rw [List.take_of_length_le (by rw [List.length_drop]; omega), cn_drop, hU]
  rw [e1] at h1
  have hl1 := h1.len
  obtain ⟨W, hW⟩ : ∃ W, W = U / 2 ^ s := ⟨_, rfl⟩
  have hVW : V / 2 ^ N = W := by rw [hW, hU, pw, Nat.div_div_eq_div_mul, ← Nat.pow_add, hNw]
  have hUn := cn_lt U
  rw [← hl1] at hUn
  have hWn : W < 4294967296 ^ n1 := Nat.lt_of_le_of_lt (by rw [hW]; exact Nat.div_le_self _ _) hUn
  have o1 := ofN_ hA n1
  conv => cbv
  refine ⟨by omega, by omega, by omega, by omega, ?_⟩
  intro az nz cz z hnz hcz hz
  obtain rfl : n1 = nz := by omega
  obtain rfl : n1 = cz := by omega
  rw [zeros] at hz
  conv => cbv
  refine ⟨Lz, fun x => ⟨[(27, .v (.int .i64 x.i)), (26, .v (.int .i64 (ofN n1))), (0, .v (.slice a1 n1 c1)), (7, .v (.slice (some az) n1 n1)), (6, .v (.int .u64 (bin .rem .u64 Ni 32)))], R, [], 0, [⟨some az, n1, n1, 68, 1, x.zs⟩]⟩,
    fun m x => ∃ (i : Nat) (ys : List Int), x.i = i ∧ i ≤ n1 ∧ m = n1 - i ∧ x.zs = ints .u32 ys ∧ ys.length = n1 ∧ Dg ys ∧ nv ys = W % 4294967296 ^ i ∧ ∀ j, i ≤ j → j < n1 → ys[j]? = some 0,
    ⟨n1, ⟨0, z⟩, ⟨⟨rfl, rfl, rfl, rfl, rfl, trivial⟩, rfl, trivial, rfl, .refl _⟩, 0, _, rfl, by omega, rfl, hz, by simp, dg_zero _, by rw [nv_zero]; simp [Nat.mod_one], fun j _ hj => by rw [List.getElem?_replicate, if_pos hj]⟩, ?_⟩
  rintro m ⟨ii, zs⟩ ⟨i, ys, hi, hin, hm, hzs, hyl, hyd, hyn, hy0⟩
  simp only at hi hzs
  conv => cbv
  by_cases hlt : i < n1
  case neg =>
    refine br_f (by rw [o1, cmp_lss hA]; simp; omega) ?_
    conv => cbv
    have hnW : nv ys = W := by rw [hyn, show i = n1 by omega, Nat.mod_eq_of_lt hWn]
    refine CallP.pub 0 rfl (fun R1 hR1 hp1 => ?_) ⟨_, by rw [hP]; exact Tryd.func36, by decide, rfl⟩
    have hr1 : RI R1 .u32 (some az) n1 ys := hp1.ri hyl.symm (fun _ => rfl) rfl hzs hyd.wf
    refine (normP hP R1 (some az) n1 n1 ys hr1 (Nat.le_refl _) (by omega)).callP rfl ?_
    rintro R2 _ hR2 ⟨a', n', c', rfl, hr, hc'⟩
    conv => cbv
    intro ρ R'' hle _ _
    exact ⟨a', n', c', rfl, by rw [hVW, ← hnW]; exact hr.le hle, hc'⟩
  refine br_t (by rw [o1, cmp_lss hA]; simp; omega) ?_
  conv => cbv
  refine ix_ri h1 o1 i hi hlt ?_
  refine ld_ri hA h1 (by omega) (by omega) ?_
  intro d hd hdw
  have hd' : (cn U)[i]? = some d := by
    rw [getD_get (by omega), hd]
    congr 2
    omega
  have hdv := cn_get hd'
  obtain ⟨Y, hY⟩ : ∃ Y, Y = U / 4294967296 ^ i := ⟨_, rfl⟩
  rw [← hY] at hdv
  have hWi : W / 4294967296 ^ i = Y / 2 ^ s := by rw [hW, hY, Nat.div_div_eq_div_mul, Nat.div_div_eq_div_mul, Nat.mul_comm]
  conv => cbv
  have e2 : bin .add .i64 ii 1 = ((i + 1 : Nat) : Int) := by rw [hi, add_i64 hA (by omega)]; rfl
  have fin : ∀ v : Int, v = ((Y % 18446744073709551616 : Nat) : Int) → cnv .u32 (bin .shr .u64 v (bin .rem .u64 Ni 32)) = ((W / 4294967296 ^ i % 4294967296 : Nat) : Int) := fun v hv => by
    rw [hv, ess, shn_u64 hA (by omega), cu32 (cnv_is hA), mod2 _ _ (by omega), hWi]
  have step : ∀ e : Int, e = ((W / 4294967296 ^ i % 4294967296 : Nat) : Int) → ∀ zs' : List Value, zs' = zs.take i ++ [Value.int .u32 e] ++ zs.drop (i + 1) → ∃ (k : Nat) (ys' : List Int), bin .add .i64 ii 1 = k ∧ k ≤ n1 ∧ n1 - (i + 1) = n1 - k ∧ zs' = ints .u32 ys' ∧ ys'.length = n1 ∧ Dg ys' ∧ nv ys' = W % 4294967296 ^ k ∧ ∀ j, k ≤ j → j < n1 → ys'[j]? = some 0 := fun e he zs' hzs' => by
    refine ⟨i + 1, ys.set i e, e2, by omega, rfl, by rw [hzs', hzs, ints_set _ _ _ _ (by omega)], by simp [hyl], dg_set hyd i (by rw [he]; omega), ?_, fun j h1 h2 => by rw [List.getElem?_set, if_neg (by omega)]; exact hy0 j (by omega) h2⟩
    have := nv_set i 0 e (hy0 i (Nat.le_refl _) hlt) (by decide) (by rw [he]; omega)
    rw [Int.zero_add] at this
    rw [this, hyn, Nat.pow_succ, Nat.mod_mul, he, Int.toNat_natCast, Nat.mul_comm]
  have ec : cnv .u64 d = d := cnv_u64 hA (by rw [hdv]; omega)
  by_cases hlast : i + 1 < n1
  · refine br_t (by rw [e2, o1, cmp_lss hA]; simp; omega) ?_
    conv => cbv
    refine ix_ri h1 o1 (i + 1) e2 hlast ?_
    refine ld_ri hA h1 (by rw [e2]; omega) (by rw [e2]; omega) ?_
    intro d2 hd2 hdw2
    rw [e2] at hd2
    have hd2' : (cn U)[i + 1]? = some d2 := by
      rw [getD_get (by omega), hd2]
      rfl
    have hdv2 := cn_get hd2'
    rw [Nat.pow_succ, ← Nat.div_div_eq_div_mul, ← hY] at hdv2
    conv => cbv
    refine ⟨by decide, ?_⟩
    have ec2 : cnv .u64 d2 = d2 := cnv_u64 hA (by rw [hdv2]; omega)
    have ev : bin .or .u64 (cnv .u64 d) (bin .shl .u64 (cnv .u64 d2) 32) = ((Y % 18446744073709551616 : Nat) : Int) := by
      rw [ec, ec2, hdv, hdv2, or64 hA (s := 32) (si := 32) (by omega) (by omega) (by omega) rfl]
      congr 1
      omega
    refine ⟨by rw [ess]; omega, ?_⟩
    refine ⟨by omega, by rw [o1]; omega, rfl, ?_⟩
    refine ⟨0, _, az, i, rfl, rfl, by rw [elem_is hA, hi]; show az.add (((i : Nat) : Int).toNat * 1) = _; rw [Nat.mul_one, Int.toNat_natCast], by show i + 1 ≤ zs.length; rw [hzs, ints_len, hyl]; omega, ?_⟩
    intro zs' hzs'
    conv => cbv
    exact ⟨n1 - (i + 1), ⟨bin .add .i64 ii 1, zs'⟩, by omega, ⟨⟨rfl, rfl, rfl, rfl, rfl, trivial⟩, rfl, trivial, rfl, .refl _⟩, step _ (fin _ ev) zs' hzs'⟩
  · refine br_f (by rw [e2, o1, cmp_lss hA]; simp; omega) ?_
    conv => cbv
    have hY0 : Y < 4294967296 := by
      rw [hY, Nat.div_lt_iff_lt_mul (Nat.pow_pos (by decide)), Nat.mul_comm, ← Nat.pow_succ, show i.succ = n1 by omega]
      exact hUn
    have ev : cnv .u64 d = ((Y % 18446744073709551616 : Nat) : Int) := by rw [ec, hdv]; omega
    refine ⟨by rw [ess]; omega, ?_⟩
    refine ⟨by omega, by rw [o1]; omega, rfl, ?_⟩
    refine ⟨0, _, az, i, rfl, rfl, by rw [elem_is hA, hi]; show az.add (((i : Nat) : Int).toNat * 1) = _; rw [Nat.mul_one, Int.toNat_natCast], by show i + 1 ≤ zs.length; rw [hzs, ints_len, hyl]; omega, ?_⟩
    intro zs' hzs'
    conv => cbv
    exact ⟨n1 - (i + 1), ⟨bin .add .i64 ii 1, zs'⟩, by omega, ⟨⟨rfl, rfl, rfl, rfl, rfl, trivial⟩, rfl, trivial, rfl, .refl _⟩, step _ (fin _ ev) zs' hzs'⟩

set_option maxRecDepth 100000 in
set_option maxHeartbeats 2000000 in
/-- One digit is shifted up. -/
theorem lshP {P : Program} (hP : P = Tryd.prog) (R : RO) (a : Option Addr) (n c V N : Nat) (Ni : Int) (hNi : Ni = N) (h : RI R .u32 a n (cn V)) (hV0 : V ≠ 0) (hV : V < 4294967296) (hN : N ≤ 10000) :
    RetP P 56 [.slice a n c, .int .u64 Ni] R fun R' r => ∃ a' n' c', r = .slice a' n' c' ∧ RI R' .u32 a' n' (cn (V * 2 ^ N)) ∧ n' ≤ c' := by
  subst hP
  rw [cn_one hV0 hV] at h
  have hl : n = 1 := h.len
  refine retP_vc (fz := []) Tryd.func56 rfl (by decide) rfl ok56 ?_
  intro P bin cmp cnv neg com bnot beq ofN toN at_ sub_ scmp cat sget ssz ssub elem fld_ hP hA
  conv => cbv
  have o := ofN_ hA n
  refine br_f (by rw [o, cmp_eql hA]; simp; omega) ?_
  conv => cbv
  refine ⟨by decide, ?_⟩
  refine ⟨by decide, ?_⟩
  obtain ⟨w, hw⟩ : ∃ w, w = N / 32 := ⟨_, rfl⟩
  obtain ⟨s, hs⟩ : ∃ s, s = N % 32 := ⟨_, rfl⟩
  have hNw : N = 32 * w + s := by omega
  have ew : cnv .i64 (bin .quo .u64 Ni 32) = (w : Int) := by rw [hNi, quo_u64 hA (by omega) (by omega) (by decide), cnv_i64 hA (by omega)]; omega
  have ess : bin .rem .u64 Ni 32 = (s : Int) := by rw [hNi, rem_u64 hA (by omega)]; omega
  have el : bin .add .i64 (bin .add .i64 (ofN n) (cnv .i64 (bin .quo .u64 Ni 32))) 1 = ((w + 2 : Nat) : Int) := by
    have e1 : bin .add .i64 (ofN n) (cnv .i64 (bin .quo .u64 Ni 32)) = (n : Int) + w := by rw [o, ew]; exact add_i64 hA (by omega)
    rw [e1, add_i64 hA (by omega)]
    omega
  refine ⟨by rw [el]; omega, by rw [el]; omega, by rw [el]; omega, by rw [el]; omega, ?_⟩
  intro az nz cz z hnz hcz hz
  rw [el] at hnz hcz
  obtain ⟨M, hM⟩ : ∃ M, M = w + 2 := ⟨_, rfl⟩
  obtain rfl : M = nz := by omega
  obtain rfl : M = cz := by omega
  rw [zeros] at hz
  have oM := ofN_ hA M
  obtain ⟨T, hT⟩ : ∃ T, T = V * 2 ^ s := ⟨_, rfl⟩
  have hTl : T < 18446744073709551616 := by
    rw [hT]
    have h1 : 2 ^ s ≤ 2 ^ 31 := Nat.pow_le_pow_right (by decide) (by omega)
    have h2 := Nat.mul_le_mul (show V ≤ 4294967295 by omega) h1
    omega
  conv => cbv
  refine ⟨Lz, fun x => ⟨[(27, .v (.int .i64 x.i)), (26, .v (.int .i64 (ofN n))), (25, .v (.slice a n c)), (7, .v (.slice (some az) M M)), (5, .v (.int .i64 (cnv .i64 (bin .quo .u64 Ni 32)))), (6, .v (.int .u64 (bin .rem .u64 Ni 32)))], R, [], 0, [⟨some az, M, M, 68, 1, x.zs⟩]⟩,
    fun m x => (m = 1 ∧ x.i = 0 ∧ x.zs = z) ∨ (m = 0 ∧ x.i = 1 ∧ ∃ ys, x.zs = ints .u32 ys ∧ ys.length = M ∧ Dg ys ∧ nv ys = T * 4294967296 ^ w),
    ⟨1, ⟨0, z⟩, ⟨⟨rfl, rfl, rfl, rfl, rfl, rfl, trivial⟩, rfl, trivial, rfl, .refl _⟩, .inl ⟨rfl, rfl, rfl⟩⟩, ?_⟩
  rintro m ⟨ii, zs⟩ hx
  simp only at hx
  conv => cbv
  rcases hx with ⟨hm, hi, hzs⟩ | ⟨hm, hi, ys, hzs, hyl, hyd, hyn⟩
  · refine br_t (by rw [o, cmp_lss hA]; simp; omega) ?_
    conv => cbv
    refine ix_ri h o 0 hi (by omega) ?_
    refine ld_ri hA h (by omega) (by omega) ?_
    intro d hd hdw
    have hdV : d = V := by rw [hd, hi]; rfl
    conv => cbv
    refine ⟨by rw [ess]; omega, ?_⟩
    have ev : bin .shl .u64 (cnv .u64 d) (bin .rem .u64 Ni 32) = (T : Int) := by
      rw [hdV, cnv_u64 hA (by omega), ess, shw_u64 hA (by omega), ← hT, Nat.mod_eq_of_lt hTl]
    have ei : bin .add .i64 ii (cnv .i64 (bin .quo .u64 Ni 32)) = (w : Int) := by rw [ew, hi, add_i64 hA (by omega)]; omega
    have ei2 : bin .add .i64 (bin .add .i64 ii (cnv .i64 (bin .quo .u64 Ni 32))) 1 = ((w + 1 : Nat) : Int) := by rw [ei, add_i64 hA (by omega)]; rfl
    refine ⟨by rw [ei]; omega, by rw [ei, oM]; omega, rfl, ?_⟩
    refine ld_row hA 0 (r := ⟨some az, M, M, 68, 1, zs⟩) rfl rfl rfl (v := .int .u32 0) (by show zs[_]? = _; rw [ei, hzs, hz, ints, List.getElem?_map, Int.toNat_natCast, List.getElem?_replicate, if_pos (by omega)]; rfl) ?_
    conv => cbv
    have e1 : bin .or .u32 0 (cnv .u32 (bin .shl .u64 (cnv .u64 d) (bin .rem .u64 Ni 32))) = ((T % 4294967296 : Nat) : Int) := by
      rw [ev, cu32 (cnv_is hA)]
      exact (or_u32 hA (x := 0) (y := T % 4294967296) (by omega) (by omega)).trans (by rw [Nat.zero_or])
    refine ⟨by rw [ei]; omega, by rw [ei, oM]; omega, rfl, ?_⟩
    refine ⟨0, _, az, w, rfl, rfl, by rw [elem_is hA, ei]; show az.add (((w : Nat) : Int).toNat * 1) = _; rw [Nat.mul_one, Int.toNat_natCast], by show w + 1 ≤ zs.length; rw [hzs, hz, ints_len, List.length_replicate]; omega, ?_⟩
    intro z1 hz1
    conv => cbv
    refine ⟨by decide, ?_⟩
    have e2 : cnv .u32 (bin .shr .u64 (bin .shl .u64 (cnv .u64 d) (bin .rem .u64 Ni 32)) 32) = ((T / 4294967296 : Nat) : Int) := by
      rw [ev, shr_u64 hA (by decide)]
      show cnv .u32 ((T : Int) / 2 ^ 32) = _
      rw [show (T : Int) / 2 ^ 32 = ((T / 4294967296 : Nat) : Int) by omega]
      exact cnv_u32 hA (by omega)
    have hz1' : z1 = ints .u32 ((List.replicate M 0).set w ((T % 4294967296 : Nat) : Int)) := by
      rw [hz1, ← e1, hzs, hz, ← ints_set _ _ _ _ (by simp; omega)]
      rfl
    refine ⟨by rw [ei2]; omega, by rw [ei2, oM]; omega, rfl, ?_⟩
    refine ⟨0, _, az, w + 1, rfl, rfl, by rw [elem_is hA, ei2]; show az.add (((w + 1 : Nat) : Int).toNat * 1) = _; rw [Nat.mul_one, Int.toNat_natCast], by show w + 1 + 1 ≤ z1.length; rw [hz1', ints_len]; simp; omega, ?_⟩
    intro z2 hz2
    conv => cbv
    have hz2' : z2 = ints .u32 (((List.replicate M 0).set w ((T % 4294967296 : Nat) : Int)).set (w + 1) ((T / 4294967296 : Nat) : Int)) := by
      rw [hz2]
      show List.take (w + 1) z1 ++ [Value.int .u32 (cnv .u32 (bin .shr .u64 (bin .shl .u64 (cnv .u64 d) (bin .rem .u64 Ni 32)) 32))] ++ List.drop (w + 1 + 1) z1 = _
      rw [hz1', e2]
      exact ints_set _ _ _ _ (by simp; omega)
    refine ⟨0, ⟨bin .add .i64 ii 1, z2⟩, by omega, ⟨⟨rfl, rfl, rfl, rfl, rfl, rfl, trivial⟩, rfl, trivial, rfl, .refl _⟩, .inr ⟨rfl, by show bin .add .i64 ii 1 = 1; rw [hi, add_i64 hA (by omega)]; rfl, _, hz2', by simp, dg_set (dg_set (dg_zero _) _ (by omega)) _ (by omega), ?_⟩⟩
    have g1 : (List.replicate M (0 : Int))[w]? = some 0 := by rw [List.getElem?_replicate, if_pos (by omega)]
    have n1 := nv_set w 0 ((T % 4294967296 : Nat) : Int) g1 (by decide) (by omega)
    rw [Int.zero_add, nv_zero] at n1
    have g2 : ((List.replicate M (0 : Int)).set w ((T % 4294967296 : Nat) : Int))[w + 1]? = some 0 := by rw [List.getElem?_set, if_neg (by omega), List.getElem?_replicate, if_pos (by omega)]
    have n2 := nv_set (w + 1) 0 ((T / 4294967296 : Nat) : Int) g2 (by decide) (by omega)
    rw [Int.zero_add, n1] at n2
    rw [n2, Int.toNat_natCast, Int.toNat_natCast, Nat.pow_succ, Nat.zero_add, Nat.mul_comm (4294967296 ^ w), ← Nat.mul_assoc, ← Nat.add_mul]
    congr 1
    omega
  · refine br_f (by rw [o, cmp_lss hA]; simp; omega) ?_
    conv => cbv
    refine CallP.pub 0 rfl (fun R1 hR1 hp1 => ?_) ⟨_, by rw [hP]; exact Tryd.func36, by decide, rfl⟩
    have hr1 : RI R1 .u32 (some az) M ys := hp1.ri hyl.symm (fun _ => rfl) rfl hzs hyd.wf
    refine (normP hP R1 (some az) M M ys hr1 (Nat.le_refl _) (by omega)).callP rfl ?_
    rintro R2 _ hR2 ⟨a', n', c', rfl, hr, hc'⟩
    conv => cbv
    intro ρ R'' hle _ _
    have e : V * 2 ^ N = nv ys := by rw [hyn, hT, pw, hNw, Nat.pow_add, Nat.mul_assoc, Nat.mul_comm (2 ^ s)]
    exact ⟨a', n', c', rfl, by rw [e]; exact hr.le hle, hc'⟩

set_option maxRecDepth 100000 in
theorem natOfP {P : Program} (hP : P = Tryd.prog) (R : RO) (v : Nat) (vi : Int) (hv : vi = v) (hlt : v < 18446744073709551616) :
    RetP P 43 [.int .u64 vi] R fun R' r => ∃ a' n' c', r = .slice a' n' c' ∧ RI R' .u32 a' n' (cn v) ∧ n' ≤ c' := by
  subst hP
  refine retP_vc (fz := [8]) Tryd.func43 rfl (by decide) rfl ok43 ?_
  intro P bin cmp cnv neg com bnot beq ofN toN at_ sub_ scmp cat sget ssz ssub elem fld_ hP hA
  conv => cbv
  refine ⟨by decide, ?_⟩
  refine ⟨_, rfl, ?_⟩
  intro R1 b hR1 hb
  have e1 : cnv .u32 vi = ((v % 4294967296 : Nat) : Int) := by rw [hv]; exact cu32 (cnv_is hA) v
  have e2 : cnv .u32 (bin .shr .u64 vi 32) = ((v / 4294967296 : Nat) : Int) := by
    rw [hv, shr_u64 hA (by decide)]
    show cnv .u32 ((v : Int) / 2 ^ 32) = _
    rw [show (v : Int) / 2 ^ 32 = ((v / 4294967296 : Nat) : Int) by omega]
    exact cnv_u32 hA (by omega)
  have hd : Dg [((v % 4294967296 : Nat) : Int), ((v / 4294967296 : Nat) : Int)] := fun x hx => by
    simp only [List.mem_cons, List.not_mem_nil, or_false] at hx
    rcases hx with rfl | rfl <;> omega
  have hr1 : RI R1 .u32 (some ⟨b, 0, none⟩) 2 [((v % 4294967296 : Nat) : Int), ((v / 4294967296 : Nat) : Int)] := RI.blk (T := 68) (by rw [hb, e1, e2]; rfl) hd.wf
  conv => cbv
  refine (normP hP R1 _ 2 2 _ hr1 (Nat.le_refl _) (by omega)).callP rfl ?_
  rintro R2 _ hR2 ⟨a', n', c', rfl, hr, hc'⟩
  conv => cbv
  intro ρ R'' hle _ _
  have e : nv [((v % 4294967296 : Nat) : Int), ((v / 4294967296 : Nat) : Int)] = v := by
    show ((v % 4294967296 : Nat) : Int).toNat + 4294967296 * (((v / 4294967296 : Nat) : Int).toNat + 4294967296 * 0) = v
    omega
  rw [e] at hr
  exact ⟨a', n', c', rfl, hr.le hle, hc'⟩
end Go.Proofs.YtepfbdfbfimefaaDoor.Co
end
section
set_option linter.unusedSimpArgs false
set_option linter.unusedVariables false
set_option linter.unusedSectionVars false
namespace Go.Proofs.YtepfbdfbfimefaaDoor.Bf
open Go Go.Se Go.Proofs.YtepfbdfbfimefaaDoor.Co

theorem dist3 (p v1 v0 B : Nat) : p * (v1 * B + v0) = p * v1 * B + p * v0 := by rw [Nat.mul_add, Nat.mul_assoc]

theorem kn_next {N V Q W M : Nat} (hW : W = N / Q) (hV : 0 < V) (hQ : 0 < Q) (hM : M + W * Q = N + (W % V) * Q) : M + W / V * V * Q = N ∧ M < V * Q := by
  have e1 : W * Q + N % Q = N := by rw [hW]; exact Nat.div_add_mod' N Q
  have e2 : W / V * V + W % V = W := Nat.div_add_mod' W V
  have e3 : W / V * V * Q + W % V * Q = W * Q := by rw [← Nat.add_mul, e2]
  have e4 : (W % V + 1) * Q ≤ V * Q := Nat.mul_le_mul_right _ (Nat.mod_lt _ hV)
  rw [Nat.add_mul, Nat.one_mul] at e4
  have e5 := Nat.mod_lt N hQ
  generalize W / V * V * Q = A at *
  generalize W % V * Q = B at *
  generalize W * Q = C at *
  generalize V * Q = D at *
  generalize N % Q = E at *
  constructor <;> omega

section
variable {a v1 v0 u0 V W p t : Nat} (hV : V = v1 * 4294967296 + v0) (hW : W = a * 4294967296 + u0) (hu0 : u0 < 4294967296) (hv0 : v0 < 4294967296) (hv1 : 4294967296 ≤ 2 * v1)
include hV hW hu0 hv0 hv1

theorem kn_init (hlt : W < V * 4294967296) : a / v1 ≤ 4294967297 ∧ W / V ≤ a / v1 := by
  have hv : 0 < v1 := by omega
  constructor
  · have h1 : a / v1 < 4294967298 := by
      rw [Nat.div_lt_iff_lt_mul hv]
      omega
    omega
  · have h2 := Nat.lt_mul_div_succ a hv
    obtain ⟨p0, hp0⟩ : ∃ p0, p0 = a / v1 := ⟨_, rfl⟩
    rw [← hp0] at h2 ⊢
    have h3 : W / V < p0 + 1 := by
      have e := dist3 (p0 + 1) v1 v0 4294967296
      rw [Nat.div_lt_iff_lt_mul (by omega), hV]
      rw [Nat.mul_comm (p0 + 1) v1] at e
      generalize v1 * (p0 + 1) = A at *
      generalize (p0 + 1) * v0 = C at *
      generalize (p0 + 1) * (v1 * 4294967296 + v0) = D at *
      omega
    omega

theorem kn_dec (hlt : W < V * 4294967296) (hp : p * v1 + t = a) (h : 4294967296 ≤ p ∨ t * 4294967296 + u0 < p * v0) : W / V < p := by
  rw [Nat.div_lt_iff_lt_mul (by omega)]
  rcases h with h | h
  · refine Nat.lt_of_lt_of_le hlt ?_
    rw [Nat.mul_comm]
    exact Nat.mul_le_mul_right _ h
  · have e := dist3 p v1 v0 4294967296
    rw [← hV] at e
    generalize p * V = D at *
    generalize p * v1 = A at *
    generalize p * v0 = C at *
    omega

theorem kn_end (hp : p * v1 + t = a) (h : p * v0 ≤ t * 4294967296 + u0) (hq : W / V ≤ p) : p = W / V := by
  refine Nat.le_antisymm ?_ hq
  have e := dist3 p v1 v0 4294967296
  rw [← hV] at e
  rw [Nat.le_div_iff_mul_le (by omega)]
  generalize p * V = D at *
  generalize p * v1 = A at *
  generalize p * v0 = C at *
  omega
end

theorem kn_brk {p v0 t u0 : Nat} (hp : p ≤ 4294967296) (hv0 : v0 < 4294967296) (ht : 4294967296 ≤ t) : p * v0 ≤ t * 4294967296 + u0 := by
  have h1 := Nat.mul_le_mul_right v0 hp
  generalize p * v0 = C at *
  omega

/-- One digit of the difference: what u64 makes of it. -/
def sb64 (u m b : Nat) : Nat := (u + 18446744073709551616 - m - b) % 18446744073709551616

theorem sb64_c {u m b : Nat} (hu : u < 4294967296) (hm : m < 4294967296) (hb : b ≤ 1) : (m + b ≤ u ∧ sb64 u m b % 4294967296 + m + b = u ∧ sb64 u m b / 9223372036854775808 = 0) ∨ (u < m + b ∧ sb64 u m b % 4294967296 + m + b = u + 4294967296 ∧ sb64 u m b / 9223372036854775808 = 1) := by
  rcases Nat.lt_or_ge u (m + b) with h | h
  · have e : sb64 u m b = u + 18446744073709551616 - m - b := by unfold sb64; rw [Nat.mod_eq_of_lt (by omega)]
    rw [e]
    exact .inr ⟨h, by omega, by omega⟩
  · have e : sb64 u m b = u - m - b := by unfold sb64; omega
    rw [e]
    exact .inl ⟨h, by omega, by omega⟩

theorem sb64_0 {u m b : Nat} (h : u = m + b) : sb64 u m b = 0 := by
  unfold sb64
  rw [show u + 18446744073709551616 - m - b = 18446744073709551616 by omega]

theorem kn_sub {u0 u1 u2 P0 P1 W V x0 b0 T x1 b1 : Nat} (h0 : u0 < 4294967296) (h1 : u1 < 4294967296) (h2 : u2 < 4294967296) (hW : W = u0 + u1 * 4294967296 + u2 * 18446744073709551616)
    (hle : P1 * 4294967296 + P0 ≤ W) (hlt : W - (P1 * 4294967296 + P0) < V) (hV : V < 18446744073709551616)
    (hx0 : x0 = sb64 u0 (P0 % 4294967296) 0 % 4294967296) (hb0 : b0 = sb64 u0 (P0 % 4294967296) 0 / 9223372036854775808) (hT : T = P0 / 4294967296 + P1)
    (hx1 : x1 = sb64 u1 (T % 4294967296) b0 % 4294967296) (hb1 : b1 = sb64 u1 (T % 4294967296) b0 / 9223372036854775808) :
    sb64 u2 (T / 4294967296) b1 = 0 ∧ x0 + x1 * 4294967296 + (P1 * 4294967296 + P0) = W := by
  have c0 := sb64_c h0 (Nat.mod_lt P0 (show 0 < 4294967296 by decide)) (Nat.zero_le 1)
  rw [← hx0, ← hb0] at c0
  have c1 := sb64_c h1 (Nat.mod_lt T (show 0 < 4294967296 by decide)) (show b0 ≤ 1 by omega)
  rw [← hx1, ← hb1] at c1
  have e1 := Nat.div_add_mod P0 4294967296
  have e2 := Nat.div_add_mod T 4294967296
  generalize P0 / 4294967296 = q0 at *
  generalize P0 % 4294967296 = m0 at *
  generalize T / 4294967296 = q1 at *
  generalize T % 4294967296 = m1 at *
  clear hx0 hb0 hx1 hb1
  have key : u2 = q1 + b1 := by omega
  exact ⟨sb64_0 key, by omega⟩

theorem sb64_b {u m b : Nat} (hu : u < 4294967296) (hm : m < 4294967296) (hb : b ≤ 1) : sb64 u m b / 9223372036854775808 ≤ 1 := by unfold sb64; omega

/-- One digit's step. -/
structure Stp (u v pq c b x c' b' : Nat) : Prop where
  hg : c + pq * v < 18446744073709551616
  hx : x = sb64 u ((c + pq * v) % 4294967296) b % 4294967296
  hc : c' = (c + pq * v) / 4294967296
  hb : b' = sb64 u ((c + pq * v) % 4294967296) b / 9223372036854775808
  hxl : x < 4294967296
  hbl : b' ≤ 1

theorem kn_round {u0 u1 u2 v0 v1 V W pq : Nat} (h0 : u0 < 4294967296) (h1 : u1 < 4294967296) (h2 : u2 < 4294967296) (hv0 : v0 < 4294967296) (hv1 : v1 < 4294967296) (hW : W = u0 + u1 * 4294967296 + u2 * 18446744073709551616) (hVV : V = v1 * 4294967296 + v0) (hV0 : 0 < V)
    (hpq : pq = W / V) (hpqB : pq < 4294967296) : ∃ x0 c0 b0 x1 c1 b1 : Nat, Stp u0 v0 pq 0 0 x0 c0 b0 ∧ Stp u1 v1 pq c0 b0 x1 c1 b1 ∧ sb64 u2 c1 b1 = 0 ∧ x0 + x1 * 4294967296 = W % V ∧ c1 < 18446744073709551616 := by
  obtain ⟨P0, hP0⟩ : ∃ P0, P0 = pq * v0 := ⟨_, rfl⟩
  obtain ⟨P1, hP1⟩ : ∃ P1, P1 = pq * v1 := ⟨_, rfl⟩
  have hpv0 := Nat.mul_le_mul (show pq ≤ 4294967295 by omega) (show v0 ≤ 4294967295 by omega)
  have hpv1 := Nat.mul_le_mul (show pq ≤ 4294967295 by omega) (show v1 ≤ 4294967295 by omega)
  rw [← hP0] at hpv0
  rw [← hP1] at hpv1
  have hpV : pq * V = P1 * 4294967296 + P0 := by rw [hVV, dist3, ← hP0, ← hP1]
  have hmd := Nat.div_add_mod' W V
  rw [← hpq, hpV] at hmd
  have hWmV := Nat.mod_lt W (show V > 0 by omega)
  have hm : W - (P1 * 4294967296 + P0) = W % V := by omega
  have hb0 := sb64_b (u := u0) (m := P0 % 4294967296) (b := 0) h0 (Nat.mod_lt _ (by decide)) (by decide)
  have hb1 := sb64_b (u := u1) (m := (P0 / 4294967296 + P1) % 4294967296) (b := sb64 u0 (P0 % 4294967296) 0 / 9223372036854775808) h1 (Nat.mod_lt _ (by decide)) hb0
  have hks := kn_sub (V := V) h0 h1 h2 (W := W) (P0 := P0) (P1 := P1) hW (by omega) (by omega) (by omega) rfl rfl rfl rfl rfl
  refine ⟨sb64 u0 (P0 % 4294967296) 0 % 4294967296, P0 / 4294967296, sb64 u0 (P0 % 4294967296) 0 / 9223372036854775808, sb64 u1 ((P0 / 4294967296 + P1) % 4294967296) (sb64 u0 (P0 % 4294967296) 0 / 9223372036854775808) % 4294967296, (P0 / 4294967296 + P1) / 4294967296, sb64 u1 ((P0 / 4294967296 + P1) % 4294967296) (sb64 u0 (P0 % 4294967296) 0 / 9223372036854775808) / 9223372036854775808, ⟨?_, ?_, ?_, ?_, Nat.mod_lt _ (by decide), hb0⟩, ⟨?_, ?_, ?_, ?_, Nat.mod_lt _ (by decide), hb1⟩, hks.1, ?_, ?_⟩
  · rw [← hP0]; omega
  · rw [← hP0, Nat.zero_add]
  · rw [← hP0, Nat.zero_add]
  · rw [← hP0, Nat.zero_add]
  · rw [← hP1]; omega
  · rw [← hP1]
  · rw [← hP1]
  · rw [← hP1]
  · have := hks.2
    omega
  · omega

theorem nv_get3 {ds : List Int} (h : Dg ds) (j : Nat) (h2 : j + 2 < ds.length) {d0 d1 d2 : Int} (g0 : ds[j]? = some d0) (g1 : ds[j + 1]? = some d1) (g2 : ds[j + 2]? = some d2) {V W : Nat} (hV : V < 18446744073709551616) (hN : nv ds < V * 4294967296 ^ (j + 1)) (hW : W = nv ds / 4294967296 ^ j) :
    W < V * 4294967296 ∧ d0 = ((W % 4294967296 : Nat) : Int) ∧ d1 = ((W / 4294967296 % 4294967296 : Nat) : Int) ∧ d2 = ((W / 18446744073709551616 : Nat) : Int) := by
  have e0 := nv_get h j d0 g0
  have e1 := nv_get h (j + 1) d1 g1
  have e2 := nv_get h (j + 2) d2 g2
  have p1 : 4294967296 ^ (j + 1) = 4294967296 ^ j * 4294967296 := Nat.pow_succ ..
  have p2 : 4294967296 ^ (j + 2) = 4294967296 ^ j * 18446744073709551616 := by rw [Nat.pow_succ, Nat.pow_succ, Nat.mul_assoc]
  rw [p1, ← Nat.div_div_eq_div_mul, ← hW] at e1
  rw [p2, ← Nat.div_div_eq_div_mul, ← hW] at e2
  rw [← hW] at e0
  have hlt : W < V * 4294967296 := by
    rw [hW, Nat.div_lt_iff_lt_mul (Nat.pow_pos (by decide)), Nat.mul_assoc, Nat.mul_comm 4294967296, ← p1]
    exact hN
  refine ⟨hlt, e0, e1, ?_⟩
  rw [e2, Nat.mod_eq_of_lt (by omega)]

/-- A window of three digits written over. -/
theorem nv_win {ds : List Int} (h : Dg ds) (j : Nat) (h2 : j + 2 < ds.length) {d0 d1 d2 : Int} (g0 : ds[j]? = some d0) (g1 : ds[j + 1]? = some d1) (g2 : ds[j + 2]? = some d2) (x0 x1 : Nat) :
    nv (((ds.set j (x0 : Int)).set (j + 1) (x1 : Int)).set (j + 2) 0) + (d0.toNat + d1.toNat * 4294967296 + d2.toNat * 18446744073709551616) * 4294967296 ^ j = nv ds + (x0 + x1 * 4294967296) * 4294967296 ^ j := by
  have s2 : ∀ {ds : List Int} (i : Nat) (d e : Int), ds[i]? = some d → nv (ds.set i e) + d.toNat * 4294967296 ^ i = nv ds + e.toNat * 4294967296 ^ i := nv_set2'
  have a0 := s2 j d0 (x0 : Int) g0
  have a1 := s2 (ds := ds.set j (x0 : Int)) (j + 1) d1 (x1 : Int) (by rw [List.getElem?_set, if_neg (by omega)]; exact g1)
  have a2 := s2 (ds := (ds.set j (x0 : Int)).set (j + 1) (x1 : Int)) (j + 2) d2 0 (by rw [List.getElem?_set, if_neg (by omega), List.getElem?_set, if_neg (by omega)]; exact g2)
  have p1 : 4294967296 ^ (j + 1) = 4294967296 * 4294967296 ^ j := by rw [Nat.pow_succ, Nat.mul_comm]
  have p2 : 4294967296 ^ (j + 2) = 18446744073709551616 * 4294967296 ^ j := by rw [Nat.pow_succ, Nat.pow_succ, Nat.mul_assoc, Nat.mul_comm]
  rw [p1, ← Nat.mul_assoc, ← Nat.mul_assoc] at a1
  rw [p2, ← Nat.mul_assoc] at a2
  rw [Nat.add_mul, Nat.add_mul, Nat.add_mul]
  simp only [Int.toNat_natCast, Int.toNat_zero, Nat.zero_mul, Nat.add_zero] at a0 a1 a2
  omega
where
  nv_set2' : ∀ {ds : List Int} (i : Nat) (d e : Int), ds[i]? = some d → nv (ds.set i e) + d.toNat * 4294967296 ^ i = nv ds + e.toNat * 4294967296 ^ i
  | d :: ds, 0, y, e, h => by
    simp at h
    subst h
    rw [List.set_cons_zero, nv, nv, Nat.pow_zero]
    omega
  | d :: ds, i + 1, y, e, h => by
    rw [List.getElem?_cons_succ] at h
    have ih := nv_set2' (ds := ds) i y e h
    rw [List.set_cons_succ, nv, nv, Nat.pow_succ]
    have e1 : y.toNat * (4294967296 ^ i * 4294967296) = 4294967296 * (y.toNat * 4294967296 ^ i) := by rw [← Nat.mul_assoc, Nat.mul_comm]
    have e2 : e.toNat * (4294967296 ^ i * 4294967296) = 4294967296 * (e.toNat * 4294967296 ^ i) := by rw [← Nat.mul_assoc, Nat.mul_comm]
    rw [e1, e2]
    omega

section
variable {bin : BinOp → IntKind → Int → Int → Int} {cmp : BinOp → Int → Int → Bool} {cnv : IntKind → Int → Int} {neg : IntKind → Int → Int} {com : IntKind → Int → Int} {bnot : Bool → Bool} {beq : Bool → Bool → Bool} {ofN : Nat → Int} {toN : Int → Nat} {at_ : Nat → Nat → Nat → Nat} {sub_ : Nat → Nat → Nat} {scmp : BinOp → ByteArray → ByteArray → Bool} {cat : ByteArray → ByteArray → ByteArray} {sget : ByteArray → Int → Int} {ssz : ByteArray → Nat} {ssub : ByteArray → Nat → Nat → ByteArray} {elem : Option Addr → Int → Nat → Addr} {fld_ : Addr → Nat → Addr}
  (hA : (⟨bin, cmp, cnv, neg, com, bnot, beq, ofN, toN, at_, sub_, scmp, cat, sget, ssz, ssub, elem, fld_⟩ : Ar) = Ar.real)
include hA

theorem subw {u m b : Nat} (hu : u < 18446744073709551616) (hm : m < 18446744073709551616) (hb : b ≤ 1) : bin .sub .u64 (bin .sub .u64 (u : Int) (m : Int)) (b : Int) = ((sb64 u m b : Nat) : Int) := by
  have w : ∀ x y : Int, bin .sub .u64 x y = (x - y) % 18446744073709551616 := fun x y => by
    rw [bin_is hA]
    show IntKind.u64.wrap (x - y) = _
    unfold IntKind.wrap
    exact if_neg (by simp [IntKind.signed])
  rw [w, w]
  unfold sb64
  omega
end
end Go.Proofs.YtepfbdfbfimefaaDoor.Bf
end
section
namespace Go.Proofs.YtepfbdfbfimefaaDoor.Tynd
open Go Go.Se Go.Proofs

/-- int -/
def y3 : Ty := ⟨.int .i64, 1, false, .int .i64 0, 8⟩
theorem ty3 : tyOf Tryd.prog 3 = some y3 := by kernel_rfl
/-- uint64 -/
def y33 : Ty := ⟨.int .u64, 1, false, .int .u64 0, 8⟩
theorem ty33 : tyOf Tryd.prog 33 = some y33 := by kernel_rfl
/-- big.nat -/
def y48 : Ty := ⟨.slc 68, 1, false, .slice none 0 0, 24⟩
theorem ty48 : tyOf Tryd.prog 48 = some y48 := by kernel_rfl
/-- uint32 -/
def y68 : Ty := ⟨.int .u32, 1, false, .int .u32 0, 4⟩
theorem ty68 : tyOf Tryd.prog 68 = some y68 := by kernel_rfl

/-- function 55: (pub-mintmark/pub/smallbig.nat).divW -/
def tys55 : Nat → Option Ty := fun t => find [(48, y48), (68, y68), (3, y3), (33, y33)] t
theorem ok55 : TysOk Tryd.prog tys55 := tysOk_of ⟨ty48, ty68, ty3, ty33, trivial⟩
end Go.Proofs.YtepfbdfbfimefaaDoor.Tynd
end
