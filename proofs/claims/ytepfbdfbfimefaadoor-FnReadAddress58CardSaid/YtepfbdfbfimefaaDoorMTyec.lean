/- Great numbers: shifted up, added, multiplied at any size. -/
/- The types that some functions name, as the evaluator wants them. Printed by a program of my own (seatgen.py). -/
/- Great numbers: added, multiplied at any size. -/
/- The types that some functions name, as the evaluator wants them. Printed by a program of my own (seatgen.py). -/
import Derived.Test.YtepfbdfbfimefaaDoorMTynd
import Derived.Test.YtepfbdfbfimefaaDoorMTyea
import Derived.Test.YtepfbdfbfimefaaDoorSl
import Derived.Test.YtepfbdfbfimefaaDoorProg
import Derived.KernelRfl
section
set_option linter.unusedSimpArgs false
set_option linter.unusedVariables false
namespace Go.Proofs.YtepfbdfbfimefaaDoor.Bf
open Go Go.Se Go.Proofs Go.Proofs.YtepfbdfbfimefaaDoor.Co Go.Proofs.YtepfbdfbfimefaaDoor.Tyea

theorem ex_get {ys : List Int} {i : Nat} (hd : Dg ys) (h : i < ys.length) : ∃ (ui : Int) (u : Nat), ys[i]? = some ui ∧ ui = u ∧ u < 4294967296 := by
  have h1 : ys[i]? = some ys[i] := List.getElem?_eq_getElem h
  have h2 := hd _ (List.mem_of_getElem? h1)
  exact ⟨ys[i], ys[i].toNat, h1, by omega, by omega⟩

theorem nv_next {X i D : Nat} (hD : D = X / 4294967296 ^ i % 4294967296) : X % 4294967296 ^ (i + 1) = X % 4294967296 ^ i + D * 4294967296 ^ i := by
  rw [Nat.pow_succ, Nat.mod_mul, ← hD, Nat.mul_comm (4294967296 ^ i) D]

theorem low_or {D s u : Nat} (hs : s < 32) (hu : u < 2 ^ s) : u ||| D * 2 ^ s % 4294967296 = u + D * 2 ^ s % 4294967296 := by
  have e1 : D * 2 ^ s % 4294967296 = 2 ^ s * (D % 2 ^ (32 - s)) := by
    rw [show 4294967296 = 2 ^ s * 2 ^ (32 - s) by rw [← Nat.pow_add, show s + (32 - s) = 32 by omega], Nat.mul_comm D, Nat.mul_mod_mul_left]
  rw [e1, Nat.or_comm, ← Nat.two_pow_add_eq_or_of_lt hu, Nat.add_comm]

set_option maxRecDepth 100000 in
set_option maxHeartbeats 2000000 in
/-- A number shifted up by less than a digit. -/
theorem lshG {P : Program} (hP : P = Tryd.prog) (R : RO) (a : Option Addr) (n c V s : Nat) (Ni : Int) (hNi : Ni = s) (h : RI R .u32 a n (cn V)) (hV0 : V ≠ 0) (hn : n ≤ 10000) (hN : s < 32) :
    RetP P 56 [.slice a n c, .int .u64 Ni] R fun R' r => ∃ a' n' c', r = .slice a' n' c' ∧ RI R' .u32 a' n' (cn (V * 2 ^ s)) ∧ n' ≤ c' := by
  subst hP
  have hl := h.len
  have hn1 : 1 ≤ n := by rw [hl]; exact (cn_len V hV0).1
  have hXn := cn_lt V
  rw [← hl] at hXn
  refine retP_vc (fz := []) Tryd.func56 rfl (by decide) rfl ok56 ?_
  intro P bin cmp cnv neg com bnot beq ofN toN at_ sub_ scmp cat sget ssz ssub elem fld_ hP hA
  conv => cbv
  have o := ofN_ hA n
  refine br_f (by rw [o, cmp_eql hA]; simp; omega) ?_
  conv => cbv
  refine ⟨by decide, ?_⟩
  refine ⟨by decide, ?_⟩
  have ew : cnv .i64 (bin .quo .u64 Ni 32) = (0 : Int) := by rw [hNi, quo_u64 hA (by omega) (by omega) (by decide), cnv_i64 hA (by omega)]; omega
  have ess : bin .rem .u64 Ni 32 = (s : Int) := by rw [hNi, rem_u64 hA (by omega)]; omega
  have el : bin .add .i64 (bin .add .i64 (ofN n) (cnv .i64 (bin .quo .u64 Ni 32))) 1 = ((n + 1 : Nat) : Int) := by
    have e1 : bin .add .i64 (ofN n) (cnv .i64 (bin .quo .u64 Ni 32)) = (n : Int) := by rw [o, ew, add_i64 hA (by omega)]; omega
    rw [e1, add_i64 hA (by omega)]
    omega
  refine ⟨by rw [el]; omega, by rw [el]; omega, by rw [el]; omega, by rw [el]; omega, ?_⟩
  intro az nz cz z hnz hcz hz
  rw [el] at hnz hcz
  obtain ⟨M, hM⟩ : ∃ M, M = n + 1 := ⟨_, rfl⟩
  obtain rfl : M = nz := by omega
  obtain rfl : M = cz := by omega
  rw [zeros] at hz
  have oM := ofN_ hA M
  conv => cbv
  refine ⟨Lz, fun x => ⟨[(27, .v (.int .i64 x.i)), (26, .v (.int .i64 (ofN n))), (25, .v (.slice a n c)), (7, .v (.slice (some az) M M)), (5, .v (.int .i64 (cnv .i64 (bin .quo .u64 Ni 32)))), (6, .v (.int .u64 (bin .rem .u64 Ni 32)))], R, [], 0, [⟨some az, M, M, 68, 1, x.zs⟩]⟩,
    fun m x => ∃ (i : Nat) (ys : List Int), x.i = i ∧ i ≤ n ∧ m = n - i ∧ x.zs = ints .u32 ys ∧ ys.length = M ∧ Dg ys ∧ nv ys = V % 4294967296 ^ i * 2 ^ s ∧ ∀ j, i < j → j < M → ys[j]? = some 0,
    ⟨n, ⟨0, z⟩, ⟨⟨rfl, rfl, rfl, rfl, rfl, rfl, trivial⟩, rfl, trivial, rfl, .refl _⟩, 0, _, rfl, by omega, rfl, hz, by simp, dg_zero _, by rw [nv_zero]; simp [Nat.mod_one], fun j _ hj => by rw [List.getElem?_replicate, if_pos hj]⟩, ?_⟩
  rintro m ⟨ii, zs⟩ ⟨i, ys, hi, hin, hm, hzs, hyl, hyd, hyv, hy0⟩
  simp only at hi hzs
  conv => cbv
  by_cases hlt : i < n
  case neg =>
    refine br_f (by rw [o, cmp_lss hA]; simp; omega) ?_
    conv => cbv
    have e : V * 2 ^ s = nv ys := by rw [hyv, show i = n by omega, Nat.mod_eq_of_lt hXn]
    refine CallP.pub 0 rfl (fun R1 hR1 hp1 => ?_) ⟨_, by rw [hP]; exact Tryd.func36, by decide, rfl⟩
    have hr1 : RI R1 .u32 (some az) M ys := hp1.ri hyl.symm (fun _ => rfl) rfl hzs hyd.wf
    refine (normP hP R1 (some az) M M ys hr1 (Nat.le_refl _) (by omega)).callP rfl ?_
    rintro R2 _ hR2 ⟨a', n', c', rfl, hr, hc'⟩
    conv => cbv
    intro ρ R'' hle _ _
    exact ⟨a', n', c', rfl, by rw [e]; exact hr.le hle, hc'⟩
  refine br_t (by rw [o, cmp_lss hA]; simp; omega) ?_
  conv => cbv
  refine ix_ri h o i hi (by omega) ?_
  refine ld_ri hA h (by omega) (by omega) ?_
  intro d hd hdw
  have hd' : (cn V)[i]? = some d := by rw [getD_get (by omega), hd]; congr 2; omega
  have hdv := cn_get hd'
  obtain ⟨D, hD⟩ : ∃ D, D = V / 4294967296 ^ i % 4294967296 := ⟨_, rfl⟩
  rw [← hD] at hdv
  have hDl : D < 4294967296 := by omega
  obtain ⟨T, hT⟩ : ∃ T, T = D * 2 ^ s := ⟨_, rfl⟩
  have hs31 : 2 ^ s ≤ 2 ^ 31 := Nat.pow_le_pow_right (by decide) (by omega)
  have hTl : T < 18446744073709551616 := by
    rw [hT]
    have h2 := Nat.mul_le_mul (show D ≤ 4294967295 by omega) hs31
    omega
  obtain ⟨ui, u, hu, hui, hul⟩ := ex_get hyd (show i < ys.length by omega)
  have hus : u < 2 ^ s := by
    have h1 := nv_get hyd i _ hu
    have h2 : nv ys / 4294967296 ^ i < 2 ^ s := by
      rw [Nat.div_lt_iff_lt_mul (Nat.pow_pos (by decide)), hyv, Nat.mul_comm]
      exact Nat.mul_lt_mul_of_pos_left (Nat.mod_lt _ (Nat.pow_pos (by decide))) (Nat.pow_pos (by decide))
    have h3 : u = nv ys / 4294967296 ^ i % 4294967296 := by omega
    rw [h3]
    exact Nat.lt_of_le_of_lt (Nat.mod_le _ _) h2
  conv => cbv
  refine ⟨by rw [ess]; omega, ?_⟩
  have ev : bin .shl .u64 (cnv .u64 d) (bin .rem .u64 Ni 32) = (T : Int) := by
    rw [hdv, cnv_u64 hA (by omega), ess, shw_u64 hA (by omega), ← hT, Nat.mod_eq_of_lt hTl]
  have ei : bin .add .i64 ii (cnv .i64 (bin .quo .u64 Ni 32)) = (i : Int) := by rw [ew, hi, add_i64 hA (by omega)]; omega
  have ei2 : bin .add .i64 (bin .add .i64 ii (cnv .i64 (bin .quo .u64 Ni 32))) 1 = ((i + 1 : Nat) : Int) := by rw [ei, add_i64 hA (by omega)]; rfl
  refine ⟨by rw [ei]; omega, by rw [ei, oM]; omega, rfl, ?_⟩
  refine ld_row hA 0 (r := ⟨some az, M, M, 68, 1, zs⟩) rfl rfl rfl (v := .int .u32 ui) (by show zs[_]? = _; rw [ei, hzs, ints, List.getElem?_map, Int.toNat_natCast, hu]; rfl) ?_
  conv => cbv
  have e1 : bin .or .u32 ui (cnv .u32 (bin .shl .u64 (cnv .u64 d) (bin .rem .u64 Ni 32))) = ((u + T % 4294967296 : Nat) : Int) := by
    rw [ev, hui, cu32 (cnv_is hA), or_u32 hA (by omega) (by omega), hT, low_or hN hus]
  have hub : u + T % 4294967296 < 4294967296 := by
    have h1 := Nat.or_lt_two_pow (n := 32) (x := u) (y := T % 4294967296) (by omega) (by omega)
    rw [hT, low_or hN hus, ← hT] at h1
    omega
  refine ⟨by rw [ei]; omega, by rw [ei, oM]; omega, rfl, ?_⟩
  refine ⟨0, _, az, i, rfl, rfl, by rw [elem_is hA, ei]; show az.add (((i : Nat) : Int).toNat * 1) = _; rw [Nat.mul_one, Int.toNat_natCast], by show i + 1 ≤ zs.length; rw [hzs, ints_len, hyl]; omega, ?_⟩
  intro z1 hz1
  have hz1' : z1 = ints .u32 (ys.set i ((u + T % 4294967296 : Nat) : Int)) := by
    rw [hz1]
    show List.take i zs ++ [Value.int .u32 _] ++ List.drop (i + 1) zs = _
    rw [hzs, e1]
    exact ints_set _ _ _ _ (by omega)
  conv => cbv
  refine ⟨by decide, ?_⟩
  have e2 : cnv .u32 (bin .shr .u64 (bin .shl .u64 (cnv .u64 d) (bin .rem .u64 Ni 32)) 32) = ((T / 4294967296 : Nat) : Int) := by
    rw [ev, shr_u64 hA (by decide)]
    show cnv .u32 ((T : Int) / 2 ^ 32) = _
    rw [show (T : Int) / 2 ^ 32 = ((T / 4294967296 : Nat) : Int) by omega]
    exact cnv_u32 hA (by omega)
  refine ⟨by rw [ei2]; omega, by rw [ei2, oM]; omega, rfl, ?_⟩
  refine ⟨0, _, az, i + 1, rfl, rfl, by rw [elem_is hA, ei2]; show az.add (((i + 1 : Nat) : Int).toNat * 1) = _; rw [Nat.mul_one, Int.toNat_natCast], by show i + 1 + 1 ≤ z1.length; rw [hz1', ints_len]; simp; omega, ?_⟩
  intro z2 hz2
  have hz2' : z2 = ints .u32 ((ys.set i ((u + T % 4294967296 : Nat) : Int)).set (i + 1) ((T / 4294967296 : Nat) : Int)) := by
    rw [hz2]
    show List.take (i + 1) z1 ++ [Value.int .u32 _] ++ List.drop (i + 1 + 1) z1 = _
    rw [hz1', e2]
    exact ints_set _ _ _ _ (by simp; omega)
  conv => cbv
  refine ⟨n - (i + 1), ⟨bin .add .i64 ii 1, z2⟩, by omega, ⟨⟨rfl, rfl, rfl, rfl, rfl, rfl, trivial⟩, rfl, trivial, rfl, .refl _⟩, i + 1, _, by show bin .add .i64 ii 1 = _; rw [hi, add_i64 hA (by omega)]; rfl, by omega, rfl, hz2', by simp [hyl], dg_set (dg_set hyd i (by omega)) (i + 1) (by omega), ?_, ?_⟩
  · have g1 := nv_set2 i ui ((u + T % 4294967296 : Nat) : Int) hu
    have h5 : (ys.set i ((u + T % 4294967296 : Nat) : Int))[i + 1]? = some 0 := by rw [List.getElem?_set, if_neg (by omega)]; exact hy0 (i + 1) (by omega) (by omega)
    have g2 := nv_set (i + 1) 0 ((T / 4294967296 : Nat) : Int) h5 (by decide) (by omega)
    rw [Int.zero_add, Int.toNat_natCast] at g2
    rw [Int.toNat_natCast, hui, Int.toNat_natCast, Nat.add_mul] at g1
    rw [g2]
    have h6 : T % 4294967296 * 4294967296 ^ i + T / 4294967296 * 4294967296 ^ (i + 1) = T * 4294967296 ^ i := by
      rw [Nat.pow_succ, Nat.mul_comm (4294967296 ^ i) 4294967296, ← Nat.mul_assoc, ← Nat.add_mul]
      congr 1
      omega
    have h8 : V % 4294967296 ^ (i + 1) * 2 ^ s = V % 4294967296 ^ i * 2 ^ s + T * 4294967296 ^ i := by
      rw [nv_next hD, Nat.add_mul, hT, Nat.mul_right_comm]
    rw [h8]
    omega
  · intro j h1 h3
    rw [List.getElem?_set, if_neg (by omega), List.getElem?_set, if_neg (by omega)]
    exact hy0 j (by omega) h3
end Go.Proofs.YtepfbdfbfimefaaDoor.Bf
end
section
namespace Go.Proofs.YtepfbdfbfimefaaDoor.Tyeb
open Go Go.Se Go.Proofs

/-- int -/
def y3 : Ty := ⟨.int .i64, 1, false, .int .i64 0, 8⟩
theorem ty3 : tyOf Tryd.prog 3 = some y3 := by kernel_rfl
/-- uint64 -/
def y33 : Ty := ⟨.int .u64, 1, false, .int .u64 0, 8⟩
theorem ty33 : tyOf Tryd.prog 33 = some y33 := by kernel_rfl
/-- big.nat -/
def y48 : Ty := ⟨.slc 68, 1, false, .slice none 0 0, 24⟩
theorem ty48 : tyOf Tryd.prog 48 = some y48 := by kernel_rfl
/-- uint32 -/
def y68 : Ty := ⟨.int .u32, 1, false, .int .u32 0, 4⟩
theorem ty68 : tyOf Tryd.prog 68 = some y68 := by kernel_rfl

/-- function 51: (pub-mintmark/pub/smallbig.nat).add -/
def tys51 : Nat → Option Ty := fun t => find [(48, y48), (68, y68), (3, y3), (33, y33)] t
theorem ok51 : TysOk Tryd.prog tys51 := tysOk_of ⟨ty48, ty68, ty3, ty33, trivial⟩
end Go.Proofs.YtepfbdfbfimefaaDoor.Tyeb
end
section
set_option linter.unusedSimpArgs false
set_option linter.unusedVariables false
namespace Go.Proofs.YtepfbdfbfimefaaDoor.Bf
open Go Go.Se Go.Proofs Go.Proofs.YtepfbdfbfimefaaDoor.Co Go.Proofs.YtepfbdfbfimefaaDoor.Tyeb

theorem pw_split (T i : Nat) : T % 4294967296 * 4294967296 ^ i + T / 4294967296 * 4294967296 ^ (i + 1) = T * 4294967296 ^ i := by
  rw [Nat.pow_succ, Nat.mul_comm (4294967296 ^ i) 4294967296, ← Nat.mul_assoc, ← Nat.add_mul]
  congr 1
  omega

structure Lad where
  i : Int
  q : Int
  zs : List Value



set_option maxRecDepth 100000 in
set_option maxHeartbeats 4000000 in
theorem addP {P : Program} (hP : P = Tryd.prog) (R : RO) (a b : Option Addr) (n c k e X Y : Nat) (h : RI R .u32 a n (cn X)) (hn : n ≤ 10000) (h2 : RI R .u32 b k (cn Y)) (hk : k ≤ 10000) :
    RetP P 51 [.slice a n c, .slice b k e] R fun R' r => ∃ a' n' c', r = .slice a' n' c' ∧ RI R' .u32 a' n' (cn (X + Y)) ∧ n' ≤ c' := by
  subst hP
  refine retP_vc (fz := []) Tryd.func51 rfl (by decide) rfl ok51 ?_
  intro P bin cmp cnv neg com bnot beq ofN toN at_ sub_ scmp cat sget ssz ssub elem fld_ hP hA
  conv => cbv
  by_cases hlk : n < k
  · refine br_t (by rw [ofN_ hA n, ofN_ hA k, cmp_lss hA]; simp; omega) ?_
    conv => cbv
    rw [Nat.add_comm X Y]
    have oN := ofN_ hA k
    have oK := ofN_ hA n
    have hlX := (h2).len
    have hlY := (h).len
    have hXn := cn_lt Y
    rw [← hlX] at hXn
    have hYk := cn_lt X
    rw [← hlY] at hYk
    have el : bin .add .i64 (ofN k) 1 = ((k + 1 : Nat) : Int) := by rw [oN, add_i64 hA (by omega)]; rfl
    refine ⟨by rw [el]; omega, by rw [el]; omega, by rw [el]; omega, by rw [el]; omega, ?_⟩
    intro az nz cz z hnz hcz hz
    rw [el] at hnz hcz
    obtain ⟨W, hW⟩ : ∃ W, W = k + 1 := ⟨_, rfl⟩
    obtain rfl : W = nz := by omega
    obtain rfl : W = cz := by omega
    rw [zeros] at hz
    have oW := ofN_ hA W
    conv => cbv
    refine ⟨Lad, fun x => ⟨[(21, .v (.int .i64 x.i)), (20, .v (.int .i64 (ofN k))), (6, .v (.int .u64 x.q)), (0, .v (.slice b k e)), (1, .v (.slice a n c)), (5, .v (.slice (some az) W W))], R, [], 0, [⟨some az, W, W, 68, 1, x.zs⟩]⟩,
      fun m x => ∃ (i q : Nat) (ys : List Int), x.i = i ∧ i ≤ k ∧ m = k - i ∧ x.q = q ∧ q ≤ 1 ∧ x.zs = ints .u32 ys ∧ ys.length = W ∧ Dg ys ∧ nv ys + q * 4294967296 ^ i = Y % 4294967296 ^ i + X % 4294967296 ^ i ∧ ∀ j, i ≤ j → j < W → ys[j]? = some 0,
      ⟨k, ⟨0, 0, z⟩, ⟨⟨rfl, rfl, rfl, rfl, rfl, rfl, trivial⟩, rfl, trivial, rfl, .refl _⟩, 0, 0, _, rfl, by omega, rfl, rfl, by omega, hz, by simp, dg_zero _, by rw [nv_zero]; simp [Nat.mod_one], fun j _ hj => by rw [List.getElem?_replicate, if_pos hj]⟩, ?_⟩
    rintro m ⟨ii, qi, zs⟩ ⟨i, q, ys, hi, hin, hm, hq, hq1, hzs, hyl, hyd, hyv, hy0⟩
    simp only at hi hq hzs
    conv => cbv
    by_cases hlt : i < k
    case neg =>
      refine br_f (by rw [oN, cmp_lss hA]; simp; omega) ?_
      conv => cbv
      have eN : i = k := by omega
      have hK2 : 4294967296 ^ n ≤ 4294967296 ^ k := Nat.pow_le_pow_right (by decide) (by omega)
      rw [eN, Nat.mod_eq_of_lt hXn, Nat.mod_eq_of_lt (Nat.lt_of_lt_of_le hYk hK2)] at hyv
      refine ⟨by rw [oN]; omega, by rw [oN, oW]; omega, rfl, ?_⟩
      refine ⟨0, _, az, k, rfl, rfl, by rw [elem_is hA, oN]; show az.add (((k : Nat) : Int).toNat * 1) = _; rw [Nat.mul_one, Int.toNat_natCast], by show k + 1 ≤ zs.length; rw [hzs, ints_len, hyl]; omega, ?_⟩
      intro z1 hz1
      have e1 : cnv .u32 qi = (q : Int) := by rw [hq]; exact cnv_u32 hA (by omega)
      have hz1' : z1 = ints .u32 (ys.set k (q : Int)) := by
        rw [hz1]
        show List.take k zs ++ [Value.int .u32 _] ++ List.drop (k + 1) zs = _
        rw [hzs, e1]
        exact ints_set _ _ _ _ (by omega)
      have g2 := nv_set k 0 (q : Int) (hy0 k (by omega) (by omega)) (by decide) (by omega)
      rw [Int.zero_add, Int.toNat_natCast, hyv] at g2
      have hyd2 : Dg (ys.set k (q : Int)) := dg_set hyd k (by omega)
      conv => cbv
      refine CallP.pub 0 rfl (fun R1 hR1 hp1 => ?_) ⟨_, by rw [hP]; exact Tryd.func36, by decide, rfl⟩
      have hr1 : RI R1 .u32 (some az) W (ys.set k (q : Int)) := hp1.ri (by simp [hyl]) (fun _ => rfl) rfl hz1' hyd2.wf
      refine (normP hP R1 (some az) W W _ hr1 (Nat.le_refl _) (by omega)).callP rfl ?_
      rintro R2 _ hR2 ⟨a', n', c', rfl, hr, hc'⟩
      conv => cbv
      intro ρ R'' hle _ _
      rw [g2] at hr
      exact ⟨a', n', c', rfl, hr.le hle, hc'⟩
    refine br_t (by rw [oN, cmp_lss hA]; simp; omega) ?_
    conv => cbv
    refine ix_ri h2 oN i hi hlt ?_
    refine ld_ri hA h2 (by omega) (by omega) ?_
    intro d hd hdw
    have hd' : (cn Y)[i]? = some d := by rw [getD_get (by omega), hd]; congr 2; omega
    have hdv := cn_get hd'
    obtain ⟨D, hD⟩ : ∃ D, D = Y / 4294967296 ^ i % 4294967296 := ⟨_, rfl⟩
    rw [← hD] at hdv
    obtain ⟨F, hF⟩ : ∃ F, F = X / 4294967296 ^ i % 4294967296 := ⟨_, rfl⟩
    have ec : bin .add .u64 qi (cnv .u64 d) = ((q + D : Nat) : Int) := by rw [hq, hdv, cnv_u64 hA (by omega), add_u64 hA (by omega)]; omega
    obtain ⟨T, hT⟩ : ∃ T, T = q + D + F := ⟨_, rfl⟩
    have g3 := nv_set i 0 ((T % 4294967296 : Nat) : Int) (hy0 i (Nat.le_refl _) (by omega)) (by decide) (by omega)
    rw [Int.zero_add, Int.toNat_natCast] at g3
    have key : nv (ys.set i ((T % 4294967296 : Nat) : Int)) + T / 4294967296 * 4294967296 ^ (i + 1) = Y % 4294967296 ^ (i + 1) + X % 4294967296 ^ (i + 1) := by
      have h6 := pw_split T i
      have h7 : T * 4294967296 ^ i = q * 4294967296 ^ i + D * 4294967296 ^ i + F * 4294967296 ^ i := by rw [hT, Nat.add_mul, Nat.add_mul]
      rw [nv_next hD, nv_next hF, g3]
      omega
    have hyd3 : Dg (ys.set i ((T % 4294967296 : Nat) : Int)) := dg_set hyd i (by omega)
    have hs0 : ∀ j, i + 1 ≤ j → j < W → (ys.set i ((T % 4294967296 : Nat) : Int))[j]? = some 0 := fun j h1 h2 => by rw [List.getElem?_set, if_neg (by omega)]; exact hy0 j (by omega) h2
    conv => cbv
    by_cases hik : i < n
    · refine br_t (by rw [oK, cmp_lss hA]; simp; omega) ?_
      conv => cbv
      refine ix_ri h oK i hi hik ?_
      refine ld_ri hA h (by omega) (by omega) ?_
      intro f hf hfw
      have hf' : (cn X)[i]? = some f := by rw [getD_get (by omega), hf]; congr 2; omega
      have hfv := cn_get hf'
      rw [← hF] at hfv
      have eT : bin .add .u64 (bin .add .u64 qi (cnv .u64 d)) (cnv .u64 f) = (T : Int) := by rw [ec, hfv, cnv_u64 hA (by omega), add_u64 hA (by omega), hT]; omega
      conv => cbv
      refine ⟨by omega, by rw [oW]; omega, rfl, ?_⟩
      refine ⟨0, _, az, i, rfl, rfl, by rw [elem_is hA, hi]; show az.add (((i : Nat) : Int).toNat * 1) = _; rw [Nat.mul_one, Int.toNat_natCast], by show i + 1 ≤ zs.length; rw [hzs, ints_len, hyl]; omega, ?_⟩
      intro z1 hz1
      have e1 : cnv .u32 ((bin .add .u64 (bin .add .u64 qi (cnv .u64 d)) (cnv .u64 f))) = ((T % 4294967296 : Nat) : Int) := by rw [eT]; exact cu32 (cnv_is hA) T
      have hz1' : z1 = ints .u32 (ys.set i ((T % 4294967296 : Nat) : Int)) := by
        rw [hz1]
        show List.take i zs ++ [Value.int .u32 _] ++ List.drop (i + 1) zs = _
        rw [hzs, e1]
        exact ints_set _ _ _ _ (by omega)
      conv => cbv
      refine ⟨by decide, ?_⟩
      refine ⟨k - (i + 1), ⟨bin .add .i64 ii 1, bin .shr .u64 ((bin .add .u64 (bin .add .u64 qi (cnv .u64 d)) (cnv .u64 f))) 32, z1⟩, by omega, ⟨⟨rfl, rfl, rfl, rfl, rfl, rfl, trivial⟩, rfl, trivial, rfl, .refl _⟩, i + 1, T / 4294967296, _, by show bin .add .i64 ii 1 = _; rw [hi, add_i64 hA (by omega)]; rfl, by omega, rfl, ?_, by omega, hz1', by simp [hyl], hyd3, key, hs0⟩
      show bin .shr .u64 ((bin .add .u64 (bin .add .u64 qi (cnv .u64 d)) (cnv .u64 f))) 32 = ((T / 4294967296 : Nat) : Int)
      rw [eT, shr_u64 hA (by decide)]
      show (T : Int) / 2 ^ 32 = _
      omega
    · refine br_f (by rw [oK, cmp_lss hA]; simp; omega) ?_
      have hF0 : F = 0 := by
        have h1 : 4294967296 ^ n ≤ 4294967296 ^ i := Nat.pow_le_pow_right (by decide) (by omega)
        rw [hF, Nat.div_eq_of_lt (Nat.lt_of_lt_of_le hYk h1)]
      have eT : bin .add .u64 qi (cnv .u64 d) = (T : Int) := by rw [ec, hT, hF0]; rfl
      conv => cbv
      refine ⟨by omega, by rw [oW]; omega, rfl, ?_⟩
      refine ⟨0, _, az, i, rfl, rfl, by rw [elem_is hA, hi]; show az.add (((i : Nat) : Int).toNat * 1) = _; rw [Nat.mul_one, Int.toNat_natCast], by show i + 1 ≤ zs.length; rw [hzs, ints_len, hyl]; omega, ?_⟩
      intro z1 hz1
      have e1 : cnv .u32 ((bin .add .u64 qi (cnv .u64 d))) = ((T % 4294967296 : Nat) : Int) := by rw [eT]; exact cu32 (cnv_is hA) T
      have hz1' : z1 = ints .u32 (ys.set i ((T % 4294967296 : Nat) : Int)) := by
        rw [hz1]
        show List.take i zs ++ [Value.int .u32 _] ++ List.drop (i + 1) zs = _
        rw [hzs, e1]
        exact ints_set _ _ _ _ (by omega)
      conv => cbv
      refine ⟨by decide, ?_⟩
      refine ⟨k - (i + 1), ⟨bin .add .i64 ii 1, bin .shr .u64 ((bin .add .u64 qi (cnv .u64 d))) 32, z1⟩, by omega, ⟨⟨rfl, rfl, rfl, rfl, rfl, rfl, trivial⟩, rfl, trivial, rfl, .refl _⟩, i + 1, T / 4294967296, _, by show bin .add .i64 ii 1 = _; rw [hi, add_i64 hA (by omega)]; rfl, by omega, rfl, ?_, by omega, hz1', by simp [hyl], hyd3, key, hs0⟩
      show bin .shr .u64 ((bin .add .u64 qi (cnv .u64 d))) 32 = ((T / 4294967296 : Nat) : Int)
      rw [eT, shr_u64 hA (by decide)]
      show (T : Int) / 2 ^ 32 = _
      omega
  · refine br_f (by rw [ofN_ hA n, ofN_ hA k, cmp_lss hA]; simp; omega) ?_
    conv => cbv
    have oN := ofN_ hA n
    have oK := ofN_ hA k
    have hlX := (h).len
    have hlY := (h2).len
    have hXn := cn_lt X
    rw [← hlX] at hXn
    have hYk := cn_lt Y
    rw [← hlY] at hYk
    have el : bin .add .i64 (ofN n) 1 = ((n + 1 : Nat) : Int) := by rw [oN, add_i64 hA (by omega)]; rfl
    refine ⟨by rw [el]; omega, by rw [el]; omega, by rw [el]; omega, by rw [el]; omega, ?_⟩
    intro az nz cz z hnz hcz hz
    rw [el] at hnz hcz
    obtain ⟨W, hW⟩ : ∃ W, W = n + 1 := ⟨_, rfl⟩
    obtain rfl : W = nz := by omega
    obtain rfl : W = cz := by omega
    rw [zeros] at hz
    have oW := ofN_ hA W
    conv => cbv
    refine ⟨Lad, fun x => ⟨[(21, .v (.int .i64 x.i)), (20, .v (.int .i64 (ofN n))), (6, .v (.int .u64 x.q)), (0, .v (.slice a n c)), (1, .v (.slice b k e)), (5, .v (.slice (some az) W W))], R, [], 0, [⟨some az, W, W, 68, 1, x.zs⟩]⟩,
      fun m x => ∃ (i q : Nat) (ys : List Int), x.i = i ∧ i ≤ n ∧ m = n - i ∧ x.q = q ∧ q ≤ 1 ∧ x.zs = ints .u32 ys ∧ ys.length = W ∧ Dg ys ∧ nv ys + q * 4294967296 ^ i = X % 4294967296 ^ i + Y % 4294967296 ^ i ∧ ∀ j, i ≤ j → j < W → ys[j]? = some 0,
      ⟨n, ⟨0, 0, z⟩, ⟨⟨rfl, rfl, rfl, rfl, rfl, rfl, trivial⟩, rfl, trivial, rfl, .refl _⟩, 0, 0, _, rfl, by omega, rfl, rfl, by omega, hz, by simp, dg_zero _, by rw [nv_zero]; simp [Nat.mod_one], fun j _ hj => by rw [List.getElem?_replicate, if_pos hj]⟩, ?_⟩
    rintro m ⟨ii, qi, zs⟩ ⟨i, q, ys, hi, hin, hm, hq, hq1, hzs, hyl, hyd, hyv, hy0⟩
    simp only at hi hq hzs
    conv => cbv
    by_cases hlt : i < n
    case neg =>
      refine br_f (by rw [oN, cmp_lss hA]; simp; omega) ?_
      conv => cbv
      have eN : i = n := by omega
      have hK2 : 4294967296 ^ k ≤ 4294967296 ^ n := Nat.pow_le_pow_right (by decide) (by omega)
      rw [eN, Nat.mod_eq_of_lt hXn, Nat.mod_eq_of_lt (Nat.lt_of_lt_of_le hYk hK2)] at hyv
      refine ⟨by rw [oN]; omega, by rw [oN, oW]; omega, rfl, ?_⟩
      refine ⟨0, _, az, n, rfl, rfl, by rw [elem_is hA, oN]; show az.add (((n : Nat) : Int).toNat * 1) = _; rw [Nat.mul_one, Int.toNat_natCast], by show n + 1 ≤ zs.length; rw [hzs, ints_len, hyl]; omega, ?_⟩
      intro z1 hz1
      have e1 : cnv .u32 qi = (q : Int) := by rw [hq]; exact cnv_u32 hA (by omega)
      have hz1' : z1 = ints .u32 (ys.set n (q : Int)) := by
        rw [hz1]
        show List.take n zs ++ [Value.int .u32 _] ++ List.drop (n + 1) zs = _
        rw [hzs, e1]
        exact ints_set _ _ _ _ (by omega)
      have g2 := nv_set n 0 (q : Int) (hy0 n (by omega) (by omega)) (by decide) (by omega)
      rw [Int.zero_add, Int.toNat_natCast, hyv] at g2
      have hyd2 : Dg (ys.set n (q : Int)) := dg_set hyd n (by omega)
      conv => cbv
      refine CallP.pub 0 rfl (fun R1 hR1 hp1 => ?_) ⟨_, by rw [hP]; exact Tryd.func36, by decide, rfl⟩
      have hr1 : RI R1 .u32 (some az) W (ys.set n (q : Int)) := hp1.ri (by simp [hyl]) (fun _ => rfl) rfl hz1' hyd2.wf
      refine (normP hP R1 (some az) W W _ hr1 (Nat.le_refl _) (by omega)).callP rfl ?_
      rintro R2 _ hR2 ⟨a', n', c', rfl, hr, hc'⟩
      conv => cbv
      intro ρ R'' hle _ _
      rw [g2] at hr
      exact ⟨a', n', c', rfl, hr.le hle, hc'⟩
    refine br_t (by rw [oN, cmp_lss hA]; simp; omega) ?_
    conv => cbv
    refine ix_ri h oN i hi hlt ?_
    refine ld_ri hA h (by omega) (by omega) ?_
    intro d hd hdw
    have hd' : (cn X)[i]? = some d := by rw [getD_get (by omega), hd]; congr 2; omega
    have hdv := cn_get hd'
    obtain ⟨D, hD⟩ : ∃ D, D = X / 4294967296 ^ i % 4294967296 := ⟨_, rfl⟩
    rw [← hD] at hdv
    obtain ⟨F, hF⟩ : ∃ F, F = Y / 4294967296 ^ i % 4294967296 := ⟨_, rfl⟩
    have ec : bin .add .u64 qi (cnv .u64 d) = ((q + D : Nat) : Int) := by rw [hq, hdv, cnv_u64 hA (by omega), add_u64 hA (by omega)]; omega
    obtain ⟨T, hT⟩ : ∃ T, T = q + D + F := ⟨_, rfl⟩
    have g3 := nv_set i 0 ((T % 4294967296 : Nat) : Int) (hy0 i (Nat.le_refl _) (by omega)) (by decide) (by omega)
    rw [Int.zero_add, Int.toNat_natCast] at g3
    have key : nv (ys.set i ((T % 4294967296 : Nat) : Int)) + T / 4294967296 * 4294967296 ^ (i + 1) = X % 4294967296 ^ (i + 1) + Y % 4294967296 ^ (i + 1) := by
      have h6 := pw_split T i
      have h7 : T * 4294967296 ^ i = q * 4294967296 ^ i + D * 4294967296 ^ i + F * 4294967296 ^ i := by rw [hT, Nat.add_mul, Nat.add_mul]
      rw [nv_next hD, nv_next hF, g3]
      omega
    have hyd3 : Dg (ys.set i ((T % 4294967296 : Nat) : Int)) := dg_set hyd i (by omega)
    have hs0 : ∀ j, i + 1 ≤ j → j < W → (ys.set i ((T % 4294967296 : Nat) : Int))[j]? = some 0 := fun j h1 h2 => by rw [List.getElem?_set, if_neg (by omega)]; exact hy0 j (by omega) h2
    conv => cbv
    by_cases hik : i < k
    · refine br_t (by rw [oK, cmp_lss hA]; simp; omega) ?_
      conv => cbv
      refine ix_ri h2 oK i hi hik ?_
      refine ld_ri hA h2 (by omega) (by omega) ?_
      intro f hf hfw
      have hf' : (cn Y)[i]? = some f := by rw [getD_get (by omega), hf]; congr 2; omega
      have hfv := cn_get hf'
      rw [← hF] at hfv
      have eT : bin .add .u64 (bin .add .u64 qi (cnv .u64 d)) (cnv .u64 f) = (T : Int) := by rw [ec, hfv, cnv_u64 hA (by omega), add_u64 hA (by omega), hT]; omega
      conv => cbv
      refine ⟨by omega, by rw [oW]; omega, rfl, ?_⟩
      refine ⟨0, _, az, i, rfl, rfl, by rw [elem_is hA, hi]; show az.add (((i : Nat) : Int).toNat * 1) = _; rw [Nat.mul_one, Int.toNat_natCast], by show i + 1 ≤ zs.length; rw [hzs, ints_len, hyl]; omega, ?_⟩
      intro z1 hz1
      have e1 : cnv .u32 ((bin .add .u64 (bin .add .u64 qi (cnv .u64 d)) (cnv .u64 f))) = ((T % 4294967296 : Nat) : Int) := by rw [eT]; exact cu32 (cnv_is hA) T
      have hz1' : z1 = ints .u32 (ys.set i ((T % 4294967296 : Nat) : Int)) := by
        rw [hz1]
        show List.take i zs ++ [Value.int .u32 _] ++ List.drop (i + 1) zs = _
        rw [hzs, e1]
        exact ints_set _ _ _ _ (by omega)
      conv => cbv
      refine ⟨by decide, ?_⟩
      refine ⟨n - (i + 1), ⟨bin .add .i64 ii 1, bin .shr .u64 ((bin .add .u64 (bin .add .u64 qi (cnv .u64 d)) (cnv .u64 f))) 32, z1⟩, by omega, ⟨⟨rfl, rfl, rfl, rfl, rfl, rfl, trivial⟩, rfl, trivial, rfl, .refl _⟩, i + 1, T / 4294967296, _, by show bin .add .i64 ii 1 = _; rw [hi, add_i64 hA (by omega)]; rfl, by omega, rfl, ?_, by omega, hz1', by simp [hyl], hyd3, key, hs0⟩
      show bin .shr .u64 ((bin .add .u64 (bin .add .u64 qi (cnv .u64 d)) (cnv .u64 f))) 32 = ((T / 4294967296 : Nat) : Int)
      rw [eT, shr_u64 hA (by decide)]
      show (T : Int) / 2 ^ 32 = _
      omega
    · refine br_f (by rw [oK, cmp_lss hA]; simp; omega) ?_
      have hF0 : F = 0 := by
        have h1 : 4294967296 ^ k ≤ 4294967296 ^ i := Nat.pow_le_pow_right (by decide) (by omega)
        rw [hF, Nat.div_eq_of_lt (Nat.lt_of_lt_of_le hYk h1)]
      have eT : bin .add .u64 qi (cnv .u64 d) = (T : Int) := by rw [ec, hT, hF0]; rfl
      conv => cbv
      refine ⟨by omega, by rw [oW]; omega, rfl, ?_⟩
      refine ⟨0, _, az, i, rfl, rfl, by rw [elem_is hA, hi]; show az.add (((i : Nat) : Int).toNat * 1) = _; rw [Nat.mul_one, Int.toNat_natCast], by show i + 1 ≤ zs.length; rw [hzs, ints_len, hyl]; omega, ?_⟩
      intro z1 hz1
      have e1 : cnv .u32 ((bin .add .u64 qi (cnv .u64 d))) = ((T % 4294967296 : Nat) : Int) := by rw [eT]; exact cu32 (cnv_is hA) T
      have hz1' : z1 = ints .u32 (ys.set i ((T % 4294967296 : Nat) : Int)) := by
        rw [hz1]
        show List.take i zs ++ [Value.int .u32 _] ++ List.drop (i + 1) zs = _
        rw [hzs, e1]
        exact ints_set _ _ _ _ (by omega)
      conv => cbv
      refine ⟨by decide, ?_⟩
      refine ⟨n - (i + 1), ⟨bin .add .i64 ii 1, bin .shr .u64 ((bin .add .u64 qi (cnv .u64 d))) 32, z1⟩, by omega, ⟨⟨rfl, rfl, rfl, rfl, rfl, rfl, trivial⟩, rfl, trivial, rfl, .refl _⟩, i + 1, T / 4294967296, _, by show bin .add .i64 ii 1 = _; rw [hi, add_i64 hA (by omega)]; rfl, by omega, rfl, ?_, by omega, hz1', by simp [hyl], hyd3, key, hs0⟩
      show bin .shr .u64 ((bin .add .u64 qi (cnv .u64 d))) 32 = ((T / 4294967296 : Nat) : Int)
      rw [eT, shr_u64 hA (by decide)]
      show (T : Int) / 2 ^ 32 = _
      omega
end Go.Proofs.YtepfbdfbfimefaaDoor.Bf
end
section
namespace Go.Proofs.YtepfbdfbfimefaaDoor.Tyec
open Go Go.Se Go.Proofs

/-- int -/
def y3 : Ty := ⟨.int .i64, 1, false, .int .i64 0, 8⟩
theorem ty3 : tyOf Tryd.prog 3 = some y3 := by kernel_rfl
/-- uint64 -/
def y33 : Ty := ⟨.int .u64, 1, false, .int .u64 0, 8⟩
theorem ty33 : tyOf Tryd.prog 33 = some y33 := by kernel_rfl
/-- big.nat -/
def y48 : Ty := ⟨.slc 68, 1, false, .slice none 0 0, 24⟩
theorem ty48 : tyOf Tryd.prog 48 = some y48 := by kernel_rfl
/-- uint32 -/
def y68 : Ty := ⟨.int .u32, 1, false, .int .u32 0, 4⟩
theorem ty68 : tyOf Tryd.prog 68 = some y68 := by kernel_rfl

/-- function 42: (pub-mintmark/pub/smallbig.nat).mul -/
def tys42 : Nat → Option Ty := fun t => find [(48, y48), (68, y68), (3, y3), (33, y33)] t
theorem ok42 : TysOk Tryd.prog tys42 := tysOk_of ⟨ty48, ty68, ty3, ty33, trivial⟩
end Go.Proofs.YtepfbdfbfimefaaDoor.Tyec
end
