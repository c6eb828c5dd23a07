/- Bytes with their number ahead: the package's number, whatever stands there. -/
import Derived.Test.YtnlpjppjhikooaaDoorVda
set_option linter.unusedSimpArgs false
set_option linter.unusedVariables false
namespace Go.Proofs.YtnlpjppjhikooaaDoor.Vd
open Go Go.Se Go.Proofs Go.Proofs.YtnlpjppjhikooaaDoor.Tyvd
open Go.Proofs.YtnlpjppjhikooaaDoor.Vr (mix methRead src0 add0 harmReturn ints_zero val2 val4 val8)
open Go.Proofs.YtnlpjppjhikooaaDoor.Vs (lv lv_lt pv ext pb)

theorem un {α : Type} (l : List α) (h : 1 ≤ l.length) : ∃ d r, l = d :: r := by
  cases l with
  | nil => simp at h
  | cons d r => exact ⟨d, r, rfl⟩


theorem lv_dig : ∀ (L : List Int), (∀ x ∈ L, 0 ≤ x ∧ x ≤ 255) → ∀ (k : Nat) (d : Int), L[k]? = some d → d = (((lv L).toNat / 256 ^ k % 256 : Nat) : Int)
  | [], _, k, d, h => by cases h
  | x :: L, hb, k, d, h => by
    have h1 := lv_lt L fun y hy => hb y (List.mem_cons_of_mem _ hy)
    have h2 := hb x (List.mem_cons_self ..)
    have e : (lv (x :: L)).toNat = (lv L).toNat * 256 + x.toNat := by rw [lv]; omega
    cases k with
    | zero =>
      simp at h
      subst h
      rw [e]
      simp only [Nat.pow_zero, Nat.div_one]
      omega
    | succ k =>
      simp at h
      have ih := lv_dig L (fun y hy => hb y (List.mem_cons_of_mem _ hy)) k d h
      rw [e, Nat.pow_succ, Nat.mul_comm (256 ^ k), ← Nat.div_div_eq_div_mul, show ((lv L).toNat * 256 + x.toNat) / 256 = (lv L).toNat by omega]
      exact ih



set_option maxRecDepth 100000 in
set_option maxHeartbeats 4000000 in
theorem readNum {P : Program} (hP : P = Tryd.prog) (R : RO) (ae au : Addr) (hE : Ers R ae au) (ai : Option Addr) (ab : Addr) (N c : Nat) (xs : List Int) (zb : List Value) (hb : RI R .u8 ai N xs) (hN : N ≤ 100001) (hc : N ≤ c) (hzb : zb.length = 8) {K : RO → List (Nat × HB) → Nat → List Row → SV → Prop}
    (g2 : ∀ (v : Int) (u : Nat), pv xs = some (v, u) → ∀ (zs : List Value) (pr' q : Int), q = u → K R [(1, ⟨120, []⟩), (0, ⟨127, [.v (.slice ai N c), .v (.int .i64 q), .v (.int .i64 pr')]⟩)] 2 [⟨some ab, 8, 8, 5, 1, zs⟩] (.tu [.v (.int .u64 v), .v .nilIface]))
    (g3 : ∀ (v : Int) (u : Nat), pv xs = some (v, u) → ∀ (zs : List Value) (pr' q : Int), q = u → K R [(2, ⟨159, []⟩), (1, ⟨120, []⟩), (0, ⟨127, [.v (.slice ai N c), .v (.int .i64 q), .v (.int .i64 pr')]⟩)] 3 [⟨some ab, 8, 8, 5, 1, zs⟩] (.tu [.v (.int .u64 v), .v .nilIface]))
    (b2 : pv xs = none → ∀ (zs : List Value) (pr' q : Int) (t : Nat) (ad : Addr), K R [(1, ⟨120, []⟩), (0, ⟨127, [.v (.slice ai N c), .v (.int .i64 q), .v (.int .i64 pr')]⟩)] 2 [⟨some ab, 8, 8, 5, 1, zs⟩] (.tu [.v (.int .u64 0), .v (.iface t (.pointer (some ad)))]))
    (b4 : pv xs = none → ∀ (zs : List Value) (pr' q : Int) (s1 s2 : ByteArray), K R [(3, ⟨185, [.v (.string s1), .v (.string s2)]⟩), (2, ⟨159, []⟩), (1, ⟨120, []⟩), (0, ⟨127, [.v (.slice ai N c), .v (.int .i64 q), .v (.int .i64 pr')]⟩)] 4 [⟨some ab, 8, 8, 5, 1, zs⟩] (.tu [.v (.int .u64 0), .ifc 166 (.p 3 0)])) :
    CallP P 69 [.ifc 72 (.p 0 0), .v (.int .u32 0), .v (.slice (some ab) 8 8)] R [(1, ⟨120, []⟩), (0, ⟨127, [.v (.slice ai N c), .v (.int .i64 0), .v (.int .i64 (-1))]⟩)] 2 [⟨some ab, 8, 8, 5, 1, zb⟩] K := by
  subst hP
  have hl := hb.len
  refine callP_of_vc (fz := []) Tryd.func69 rfl (by decide) (Nat.le_of_ble_eq_true rfl) ok69 (by simp [labL, lab]) ?_
  rintro P ⟨bin, cmp, cnv, neg, com, bnot, beq, ofN, toN, at_, sub_, scmp, cat, sget, ssz, ssub, elem, fld_⟩ hP hA
  conv => cbv
  have nt : bnot true = false := by rw [bnot_ hA]; rfl
  have nf : bnot false = true := by rw [bnot_ hA]; rfl
  refine ⟨0, 1, rfl, rfl, by decide, by decide, ?_⟩
  intro a1 n1 c1 hn1 hc1 ha1
  obtain rfl : n1 = 1 := by omega
  obtain rfl : c1 = 8 := by omega
  obtain rfl : a1 = some (ab.add 0) := by rw [ha1]; rfl
  conv => cbv
  refine readA hP R ae au hE ai ab N c 1 8 0 0 rfl (-1) xs zb hb (by omega) hc (by omega) (by decide) (by decide) 8 8 (by decide) hzb ?_ ?_
  case refine_2 =>
    intro hlt z1 pr1 q1 m1 t1 ad1 hzl
    conv => cbv
    simp (maxSteps := 10000000) only [nf]
    conv => cbv
    have hx : xs = [] := List.eq_nil_of_length_eq_zero (by omega)
    exact b2 (by rw [hx]; rfl) z1 pr1 q1 t1 ad1
  intro hle z1 pr1 q1 m1 hq1 hm1 hz1
  conv => cbv
  simp (maxSteps := 10000000) only [nt]
  conv => cbv
  obtain ⟨v1, t, rfl⟩ := un xs (by omega)
  have hxb : ∀ x ∈ v1 :: t, 0 ≤ x ∧ x ≤ 255 := fun x hx => by
    have := hb.wf x hx
    simp [Lit.wf, IntKind.min, IntKind.max, IntKind.bits, IntKind.signed] at this
    omega
  have hz : z1 = .int .u8 v1 :: zb.drop 1 := by rw [hz1]; rfl
  have hv1 := hxb v1 (List.mem_cons_self ..)
  refine ⟨by decide, by rw [ofN_ hA]; decide, rfl, ?_⟩
  refine ld_row hA 0 (r := ⟨some ab, 8, 8, 5, 1, z1⟩) rfl rfl rfl (v := .int .u8 v1) (i := 0) (by show z1[0]? = _; rw [hz]; rfl) ?_
  conv => cbv
  by_cases d3 : v1 = 255
  · refine br_t (by rw [cmp_eql hA, d3]; rfl) ?_
    conv => cbv
    have hvx : pv (v1 :: t) = ext t 8 4294967296 := by rw [pv, if_neg (by omega), if_neg (by omega), if_pos d3]
    refine readA hP R ae au hE ai ab N c 8 8 1 q1 hq1 pr1 (v1 :: t) z1 hb (by omega) hc (by omega) (by decide) (by decide) 8 8 (by decide) (by rw [hz]; simp; omega) ?_ ?_
    case refine_2 =>
      intro hlt2 z2 pr2 q2 m2 t2 ad2 hzl2
      conv => cbv
      simp (maxSteps := 10000000) only [nf]
      conv => cbv
      exact b2 (by rw [hvx, ext, if_pos (by simp only [List.length_cons] at hl; omega)]) z2 pr2 q2 t2 ad2
    intro hle2 z2 pr2 q2 m2 hq2 hm2 hz2
    conv => cbv
    simp (maxSteps := 10000000) only [nt]
    conv => cbv
    have htl : 8 ≤ t.length := by simp only [List.length_cons] at hl; omega
    obtain ⟨D0, t0, rfl⟩ := un t (by first | omega | (simp only [List.length_cons] at htl; omega))
    obtain ⟨D1, t1, rfl⟩ := un t0 (by first | omega | (simp only [List.length_cons] at htl; omega))
    obtain ⟨D2, t2, rfl⟩ := un t1 (by first | omega | (simp only [List.length_cons] at htl; omega))
    obtain ⟨D3, t3, rfl⟩ := un t2 (by first | omega | (simp only [List.length_cons] at htl; omega))
    obtain ⟨D4, t4, rfl⟩ := un t3 (by first | omega | (simp only [List.length_cons] at htl; omega))
    obtain ⟨D5, t5, rfl⟩ := un t4 (by first | omega | (simp only [List.length_cons] at htl; omega))
    obtain ⟨D6, t6, rfl⟩ := un t5 (by first | omega | (simp only [List.length_cons] at htl; omega))
    obtain ⟨D7, t7, rfl⟩ := un t6 (by first | omega | (simp only [List.length_cons] at htl; omega))
    have hLb : ∀ x ∈ [D0, D1, D2, D3, D4, D5, D6, D7], 0 ≤ x ∧ x ≤ 255 := fun x hx => hxb x (List.mem_cons_of_mem _ (by simp only [List.mem_cons, List.not_mem_nil, or_false] at hx ⊢; omega))
    have hlv := lv_lt [D0, D1, D2, D3, D4, D5, D6, D7] hLb
    have htop : (256 : Int) ^ ([D0, D1, D2, D3, D4, D5, D6, D7]).length = 18446744073709551616 := by show (256 : Int) ^ 8 = 18446744073709551616; decide
    rw [htop] at hlv
    obtain ⟨w, hw⟩ : ∃ w, w = (lv [D0, D1, D2, D3, D4, D5, D6, D7]).toNat := ⟨_, rfl⟩
    have hD0 := lv_dig [D0, D1, D2, D3, D4, D5, D6, D7] hLb 0 D0 rfl
    have hD1 := lv_dig [D0, D1, D2, D3, D4, D5, D6, D7] hLb 1 D1 rfl
    have hD2 := lv_dig [D0, D1, D2, D3, D4, D5, D6, D7] hLb 2 D2 rfl
    have hD3 := lv_dig [D0, D1, D2, D3, D4, D5, D6, D7] hLb 3 D3 rfl
    have hD4 := lv_dig [D0, D1, D2, D3, D4, D5, D6, D7] hLb 4 D4 rfl
    have hD5 := lv_dig [D0, D1, D2, D3, D4, D5, D6, D7] hLb 5 D5 rfl
    have hD6 := lv_dig [D0, D1, D2, D3, D4, D5, D6, D7] hLb 6 D6 rfl
    have hD7 := lv_dig [D0, D1, D2, D3, D4, D5, D6, D7] hLb 7 D7 rfl
    rw [← hw] at hD0 hD1 hD2 hD3 hD4 hD5 hD6 hD7
    have hwi : (w : Int) = lv [D0, D1, D2, D3, D4, D5, D6, D7] := by omega
    have hy : z2 = .int .u8 D0 :: .int .u8 D1 :: .int .u8 D2 :: .int .u8 D3 :: .int .u8 D4 :: .int .u8 D5 :: .int .u8 D6 :: .int .u8 D7 :: z1.drop 8 := by rw [hz2]; rfl
    refine ⟨_, ⟨[], rfl, rfl, fun i v h => nomatch h⟩, ?_⟩
    conv => cbv
    refine callP_in (fz := []) hP hA Tryd.func103 rfl (by decide) rfl ok103 (by simp [labL, lab]) ?_
    conv => cbv
    refine ⟨by decide, by rw [ofN_ hA]; decide, rfl, ?_⟩
    refine ld_row hA 0 (r := ⟨some ab, 8, 8, 5, 1, z2⟩) rfl rfl rfl (v := .int .u8 D7) (i := 7) (by show z2[7]? = _; rw [hy]; rfl) ?_
    conv => cbv
    refine ⟨[0, 1, 2, 3, 4, 5, 6, 7, 8, 9, 10, 11, 12, 13, 14, 15, 16, 17, 18, 19, 20, 21, 22, 23, 24, 25, 26, 27, 28, 29, 30, 31, 32, 33, 34, 35, 36, 37, 38, 39, 40, 41, 42, 43, 44, 45, 46], [], mix hP, by kernel_rfl, ?_⟩
    conv => cbv
    refine ⟨by decide, by rw [ofN_ hA]; decide, rfl, ?_⟩
    refine ld_row hA 0 (r := ⟨some ab, 8, 8, 5, 1, z2⟩) rfl rfl rfl (v := .int .u8 D0) (i := 0) (by show z2[0]? = _; rw [hy]; rfl) ?_
    conv => cbv
    refine ⟨by decide, by rw [ofN_ hA]; decide, rfl, ?_⟩
    refine ld_row hA 0 (r := ⟨some ab, 8, 8, 5, 1, z2⟩) rfl rfl rfl (v := .int .u8 D1) (i := 1) (by show z2[1]? = _; rw [hy]; rfl) ?_
    conv => cbv
    refine ⟨by decide, ?_⟩
    refine ⟨by decide, by rw [ofN_ hA]; decide, rfl, ?_⟩
    refine ld_row hA 0 (r := ⟨some ab, 8, 8, 5, 1, z2⟩) rfl rfl rfl (v := .int .u8 D2) (i := 2) (by show z2[2]? = _; rw [hy]; rfl) ?_
    conv => cbv
    refine ⟨by decide, ?_⟩
    refine ⟨by decide, by rw [ofN_ hA]; decide, rfl, ?_⟩
    refine ld_row hA 0 (r := ⟨some ab, 8, 8, 5, 1, z2⟩) rfl rfl rfl (v := .int .u8 D3) (i := 3) (by show z2[3]? = _; rw [hy]; rfl) ?_
    conv => cbv
    refine ⟨by decide, ?_⟩
    refine ⟨by decide, by rw [ofN_ hA]; decide, rfl, ?_⟩
    refine ld_row hA 0 (r := ⟨some ab, 8, 8, 5, 1, z2⟩) rfl rfl rfl (v := .int .u8 D4) (i := 4) (by show z2[4]? = _; rw [hy]; rfl) ?_
    conv => cbv
    refine ⟨by decide, ?_⟩
    refine ⟨by decide, by rw [ofN_ hA]; decide, rfl, ?_⟩
    refine ld_row hA 0 (r := ⟨some ab, 8, 8, 5, 1, z2⟩) rfl rfl rfl (v := .int .u8 D5) (i := 5) (by show z2[5]? = _; rw [hy]; rfl) ?_
    conv => cbv
    refine ⟨by decide, ?_⟩
    refine ⟨by decide, by rw [ofN_ hA]; decide, rfl, ?_⟩
    refine ld_row hA 0 (r := ⟨some ab, 8, 8, 5, 1, z2⟩) rfl rfl rfl (v := .int .u8 D6) (i := 6) (by show z2[6]? = _; rw [hy]; rfl) ?_
    conv => cbv
    refine ⟨by decide, ?_⟩
    refine ⟨by decide, by rw [ofN_ hA]; decide, rfl, ?_⟩
    refine ld_row hA 0 (r := ⟨some ab, 8, 8, 5, 1, z2⟩) rfl rfl rfl (v := .int .u8 D7) (i := 7) (by show z2[7]? = _; rw [hy]; rfl) ?_
    conv => cbv
    refine ⟨by decide, ?_⟩
    obtain ⟨vv, hvv⟩ : ∃ vv, vv = (bin .or .u64 (bin .or .u64 (bin .or .u64 (bin .or .u64 (bin .or .u64 (bin .or .u64 (bin .or .u64 (cnv .u64 D0) (bin .shl .u64 (cnv .u64 D1) 8)) (bin .shl .u64 (cnv .u64 D2) 16)) (bin .shl .u64 (cnv .u64 D3) 24)) (bin .shl .u64 (cnv .u64 D4) 32)) (bin .shl .u64 (cnv .u64 D5) 40)) (bin .shl .u64 (cnv .u64 D6) 48)) (bin .shl .u64 (cnv .u64 D7) 56)) := ⟨_, rfl⟩
    have hvw : vv = (w : Int) := by rw [hvv]; exact val8 hA (v := w) (by omega) hD0 hD1 hD2 hD3 hD4 hD5 hD6 hD7
    rw [← hvv]
    by_cases hmin : vv < 4294967296
    · refine br_t (by rw [cmp_lss hA]; simpa using hmin) ?_
      conv => cbv
      have hno : pv (v1 :: D0 :: D1 :: D2 :: D3 :: D4 :: D5 :: D6 :: D7 :: t7) = none := by rw [hvx, ext, if_neg (by simp only [List.length_cons]; omega), if_pos (by show lv [D0, D1, D2, D3, D4, D5, D6, D7] < _; omega)]
      refine callP_in (fz := []) hP hA Tryd.func104 rfl (by decide) rfl ok104 (by simp [labL, lab]) ?_
      conv => cbv
      exact b4 hno z2 pr2 q2 _ _
    refine br_f (by rw [cmp_lss hA]; simpa using hmin) ?_
    conv => cbv
    exact g3 vv 9 (by rw [hvx, ext, if_neg (by simp only [List.length_cons]; omega), if_neg (by show ¬ lv [D0, D1, D2, D3, D4, D5, D6, D7] < _; omega)]; show some (lv [D0, D1, D2, D3, D4, D5, D6, D7], _) = _; rw [← hwi, ← hvw]) z2 pr2 q2 hq2
  refine br_f (by rw [cmp_eql hA]; simpa using d3) ?_
  conv => cbv
  by_cases d2 : v1 = 254
  · refine br_t (by rw [cmp_eql hA, d2]; rfl) ?_
    conv => cbv
    have hvx : pv (v1 :: t) = ext t 4 65536 := by rw [pv, if_neg (by omega), if_pos d2]
    refine ⟨0, 4, rfl, rfl, by decide, by decide, ?_⟩
    intro a6 n6 c6 hn6 hc6 ha6
    obtain rfl : n6 = 4 := by omega
    obtain rfl : c6 = 8 := by omega
    obtain rfl : a6 = some (ab.add 0) := by rw [ha6]; rfl
    conv => cbv
    refine readA hP R ae au hE ai ab N c 4 8 1 q1 hq1 pr1 (v1 :: t) z1 hb (by omega) hc (by omega) (by decide) (by decide) 8 8 (by decide) (by rw [hz]; simp; omega) ?_ ?_
    case refine_2 =>
      intro hlt2 z2 pr2 q2 m2 t2 ad2 hzl2
      conv => cbv
      simp (maxSteps := 10000000) only [nf]
      conv => cbv
      exact b2 (by rw [hvx, ext, if_pos (by simp only [List.length_cons] at hl; omega)]) z2 pr2 q2 t2 ad2
    intro hle2 z2 pr2 q2 m2 hq2 hm2 hz2
    conv => cbv
    simp (maxSteps := 10000000) only [nt]
    conv => cbv
    have htl : 4 ≤ t.length := by simp only [List.length_cons] at hl; omega
    obtain ⟨D0, t0, rfl⟩ := un t (by first | omega | (simp only [List.length_cons] at htl; omega))
    obtain ⟨D1, t1, rfl⟩ := un t0 (by first | omega | (simp only [List.length_cons] at htl; omega))
    obtain ⟨D2, t2, rfl⟩ := un t1 (by first | omega | (simp only [List.length_cons] at htl; omega))
    obtain ⟨D3, t3, rfl⟩ := un t2 (by first | omega | (simp only [List.length_cons] at htl; omega))
    have hLb : ∀ x ∈ [D0, D1, D2, D3], 0 ≤ x ∧ x ≤ 255 := fun x hx => hxb x (List.mem_cons_of_mem _ (by simp only [List.mem_cons, List.not_mem_nil, or_false] at hx ⊢; omega))
    have hlv := lv_lt [D0, D1, D2, D3] hLb
    have htop : (256 : Int) ^ ([D0, D1, D2, D3]).length = 4294967296 := by show (256 : Int) ^ 4 = 4294967296; decide
    rw [htop] at hlv
    obtain ⟨w, hw⟩ : ∃ w, w = (lv [D0, D1, D2, D3]).toNat := ⟨_, rfl⟩
    have hD0 := lv_dig [D0, D1, D2, D3] hLb 0 D0 rfl
    have hD1 := lv_dig [D0, D1, D2, D3] hLb 1 D1 rfl
    have hD2 := lv_dig [D0, D1, D2, D3] hLb 2 D2 rfl
    have hD3 := lv_dig [D0, D1, D2, D3] hLb 3 D3 rfl
    rw [← hw] at hD0 hD1 hD2 hD3
    have hwi : (w : Int) = lv [D0, D1, D2, D3] := by omega
    have hy : z2 = .int .u8 D0 :: .int .u8 D1 :: .int .u8 D2 :: .int .u8 D3 :: z1.drop 4 := by rw [hz2]; rfl
    refine ⟨[0, 1, 2, 3, 4, 5], [], mix hP, by kernel_rfl, ?_⟩
    conv => cbv
    refine ⟨_, ⟨[], rfl, rfl, fun i v h => nomatch h⟩, ?_⟩
    conv => cbv
    refine ⟨0, 4, rfl, rfl, by decide, by decide, ?_⟩
    intro a8 n8 c8 hn8 hc8 ha8
    obtain rfl : n8 = 4 := by omega
    obtain rfl : c8 = 8 := by omega
    obtain rfl : a8 = some (ab.add 0) := by rw [ha8]; rfl
    conv => cbv
    refine callP_in (fz := []) hP hA Tryd.func105 rfl (by decide) rfl ok105 (by simp [labL, lab]) ?_
    conv => cbv
    refine ⟨by decide, by rw [ofN_ hA]; decide, rfl, ?_⟩
    refine ld_row hA 0 (r := ⟨some ab, 8, 8, 5, 1, z2⟩) rfl rfl rfl (v := .int .u8 D3) (i := 3) (by show z2[3]? = _; rw [hy]; rfl) ?_
    conv => cbv
    refine ⟨[0, 1, 2, 3, 4, 5, 6, 7, 8, 9, 10, 11, 12, 13, 14, 15, 16, 17, 18, 19, 20, 21, 22], [], mix hP, by kernel_rfl, ?_⟩
    conv => cbv
    refine ⟨by decide, by rw [ofN_ hA]; decide, rfl, ?_⟩
    refine ld_row hA 0 (r := ⟨some ab, 8, 8, 5, 1, z2⟩) rfl rfl rfl (v := .int .u8 D0) (i := 0) (by show z2[0]? = _; rw [hy]; rfl) ?_
    conv => cbv
    refine ⟨by decide, by rw [ofN_ hA]; decide, rfl, ?_⟩
    refine ld_row hA 0 (r := ⟨some ab, 8, 8, 5, 1, z2⟩) rfl rfl rfl (v := .int .u8 D1) (i := 1) (by show z2[1]? = _; rw [hy]; rfl) ?_
    conv => cbv
    refine ⟨by decide, ?_⟩
    refine ⟨by decide, by rw [ofN_ hA]; decide, rfl, ?_⟩
    refine ld_row hA 0 (r := ⟨some ab, 8, 8, 5, 1, z2⟩) rfl rfl rfl (v := .int .u8 D2) (i := 2) (by show z2[2]? = _; rw [hy]; rfl) ?_
    conv => cbv
    refine ⟨by decide, ?_⟩
    refine ⟨by decide, by rw [ofN_ hA]; decide, rfl, ?_⟩
    refine ld_row hA 0 (r := ⟨some ab, 8, 8, 5, 1, z2⟩) rfl rfl rfl (v := .int .u8 D3) (i := 3) (by show z2[3]? = _; rw [hy]; rfl) ?_
    conv => cbv
    refine ⟨by decide, ?_⟩
    refine ⟨⟨⟨rfl, rfl, trivial⟩, .refl _⟩, ?_⟩
    conv => cbv
    obtain ⟨vv, hvv⟩ : ∃ vv, vv = (cnv .u64 (bin .or .u32 (bin .or .u32 (bin .or .u32 (cnv .u32 D0) (bin .shl .u32 (cnv .u32 D1) 8)) (bin .shl .u32 (cnv .u32 D2) 16)) (bin .shl .u32 (cnv .u32 D3) 24))) := ⟨_, rfl⟩
    have hvw : vv = (w : Int) := by rw [hvv]; exact val4 hA (v := w) (by omega) hD0 hD1 hD2 hD3
    rw [← hvv]
    by_cases hmin : vv < 65536
    · refine br_t (by rw [cmp_lss hA]; simpa using hmin) ?_
      conv => cbv
      have hno : pv (v1 :: D0 :: D1 :: D2 :: D3 :: t3) = none := by rw [hvx, ext, if_neg (by simp only [List.length_cons]; omega), if_pos (by show lv [D0, D1, D2, D3] < _; omega)]
      refine callP_in (fz := []) hP hA Tryd.func104 rfl (by decide) rfl ok104 (by simp [labL, lab]) ?_
      conv => cbv
      exact b4 hno z2 pr2 q2 _ _
    refine br_f (by rw [cmp_lss hA]; simpa using hmin) ?_
    conv => cbv
    exact g3 vv 5 (by rw [hvx, ext, if_neg (by simp only [List.length_cons]; omega), if_neg (by show ¬ lv [D0, D1, D2, D3] < _; omega)]; show some (lv [D0, D1, D2, D3], _) = _; rw [← hwi, ← hvw]) z2 pr2 q2 hq2
  refine br_f (by rw [cmp_eql hA]; simpa using d2) ?_
  conv => cbv
  by_cases d1 : v1 = 253
  · refine br_t (by rw [cmp_eql hA, d1]; rfl) ?_
    conv => cbv
    have hvx : pv (v1 :: t) = ext t 2 253 := by rw [pv, if_pos d1]
    refine ⟨0, 2, rfl, rfl, by decide, by decide, ?_⟩
    intro a6 n6 c6 hn6 hc6 ha6
    obtain rfl : n6 = 2 := by omega
    obtain rfl : c6 = 8 := by omega
    obtain rfl : a6 = some (ab.add 0) := by rw [ha6]; rfl
    conv => cbv
    refine readA hP R ae au hE ai ab N c 2 8 1 q1 hq1 pr1 (v1 :: t) z1 hb (by omega) hc (by omega) (by decide) (by decide) 8 8 (by decide) (by rw [hz]; simp; omega) ?_ ?_
    case refine_2 =>
      intro hlt2 z2 pr2 q2 m2 t2 ad2 hzl2
      conv => cbv
      simp (maxSteps := 10000000) only [nf]
      conv => cbv
      exact b2 (by rw [hvx, ext, if_pos (by simp only [List.length_cons] at hl; omega)]) z2 pr2 q2 t2 ad2
    intro hle2 z2 pr2 q2 m2 hq2 hm2 hz2
    conv => cbv
    simp (maxSteps := 10000000) only [nt]
    conv => cbv
    have htl : 2 ≤ t.length := by simp only [List.length_cons] at hl; omega
    obtain ⟨D0, t0, rfl⟩ := un t (by first | omega | (simp only [List.length_cons] at htl; omega))
    obtain ⟨D1, t1, rfl⟩ := un t0 (by first | omega | (simp only [List.length_cons] at htl; omega))
    have hLb : ∀ x ∈ [D0, D1], 0 ≤ x ∧ x ≤ 255 := fun x hx => hxb x (List.mem_cons_of_mem _ (by simp only [List.mem_cons, List.not_mem_nil, or_false] at hx ⊢; omega))
    have hlv := lv_lt [D0, D1] hLb
    have htop : (256 : Int) ^ ([D0, D1]).length = 65536 := by show (256 : Int) ^ 2 = 65536; decide
    rw [htop] at hlv
    obtain ⟨w, hw⟩ : ∃ w, w = (lv [D0, D1]).toNat := ⟨_, rfl⟩
    have hD0 := lv_dig [D0, D1] hLb 0 D0 rfl
    have hD1 := lv_dig [D0, D1] hLb 1 D1 rfl
    rw [← hw] at hD0 hD1
    have hwi : (w : Int) = lv [D0, D1] := by omega
    have hy : z2 = .int .u8 D0 :: .int .u8 D1 :: z1.drop 2 := by rw [hz2]; rfl
    refine ⟨[0, 1, 2, 3, 4, 5], [], mix hP, by kernel_rfl, ?_⟩
    conv => cbv
    refine ⟨_, ⟨[], rfl, rfl, fun i v h => nomatch h⟩, ?_⟩
    conv => cbv
    refine ⟨0, 2, rfl, rfl, by decide, by decide, ?_⟩
    intro a8 n8 c8 hn8 hc8 ha8
    obtain rfl : n8 = 2 := by omega
    obtain rfl : c8 = 8 := by omega
    obtain rfl : a8 = some (ab.add 0) := by rw [ha8]; rfl
    conv => cbv
    refine callP_in (fz := []) hP hA Tryd.func106 rfl (by decide) rfl ok106 (by simp [labL, lab]) ?_
    conv => cbv
    refine ⟨by decide, by rw [ofN_ hA]; decide, rfl, ?_⟩
    refine ld_row hA 0 (r := ⟨some ab, 8, 8, 5, 1, z2⟩) rfl rfl rfl (v := .int .u8 D1) (i := 1) (by show z2[1]? = _; rw [hy]; rfl) ?_
    conv => cbv
    refine ⟨[0, 1, 2, 3, 4, 5, 6, 7, 8, 9, 10], [], mix hP, by kernel_rfl, ?_⟩
    conv => cbv
    refine ⟨by decide, by rw [ofN_ hA]; decide, rfl, ?_⟩
    refine ld_row hA 0 (r := ⟨some ab, 8, 8, 5, 1, z2⟩) rfl rfl rfl (v := .int .u8 D0) (i := 0) (by show z2[0]? = _; rw [hy]; rfl) ?_
    conv => cbv
    refine ⟨by decide, by rw [ofN_ hA]; decide, rfl, ?_⟩
    refine ld_row hA 0 (r := ⟨some ab, 8, 8, 5, 1, z2⟩) rfl rfl rfl (v := .int .u8 D1) (i := 1) (by show z2[1]? = _; rw [hy]; rfl) ?_
    conv => cbv
    refine ⟨by decide, ?_⟩
    refine ⟨⟨⟨rfl, rfl, trivial⟩, .refl _⟩, ?_⟩
    conv => cbv
    obtain ⟨vv, hvv⟩ : ∃ vv, vv = (cnv .u64 (bin .or .u16 (cnv .u16 D0) (bin .shl .u16 (cnv .u16 D1) 8))) := ⟨_, rfl⟩
    have hvw : vv = (w : Int) := by rw [hvv]; exact val2 hA (v := w) (by omega) hD0 hD1
    rw [← hvv]
    by_cases hmin : vv < 253
    · refine br_t (by rw [cmp_lss hA]; simpa using hmin) ?_
      conv => cbv
      have hno : pv (v1 :: D0 :: D1 :: t1) = none := by rw [hvx, ext, if_neg (by simp only [List.length_cons]; omega), if_pos (by show lv [D0, D1] < _; omega)]
      refine callP_in (fz := []) hP hA Tryd.func104 rfl (by decide) rfl ok104 (by simp [labL, lab]) ?_
      conv => cbv
      exact b4 hno z2 pr2 q2 _ _
    refine br_f (by rw [cmp_lss hA]; simpa using hmin) ?_
    conv => cbv
    exact g3 vv 3 (by rw [hvx, ext, if_neg (by simp only [List.length_cons]; omega), if_neg (by show ¬ lv [D0, D1] < _; omega)]; show some (lv [D0, D1], _) = _; rw [← hwi, ← hvw]) z2 pr2 q2 hq2
  refine br_f (by rw [cmp_eql hA]; simpa using d1) ?_
  conv => cbv
  obtain ⟨vv, hvv⟩ : ∃ vv, vv = cnv .u64 v1 := ⟨_, rfl⟩
  have hvw : vv = v1 := by rw [hvv]; exact cnv_u64 hA (by omega)
  rw [← hvv]
  exact g2 vv 1 (by rw [pv, if_neg d1, if_neg d2, if_neg d3, hvw]) z1 pr1 q1 hq1
end Go.Proofs.YtnlpjppjhikooaaDoor.Vd
