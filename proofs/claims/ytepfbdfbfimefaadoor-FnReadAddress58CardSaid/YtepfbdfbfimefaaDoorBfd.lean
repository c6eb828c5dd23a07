/- Great numbers: over another of two digits. -/
import Derived.Test.YtepfbdfbfimefaaDoorMTyed
set_option linter.unusedSimpArgs false
set_option linter.unusedVariables false
namespace Go.Proofs.YtepfbdfbfimefaaDoor.Bf
open Go Go.Se Go.Proofs Go.Proofs.YtepfbdfbfimefaaDoor.Co Go.Proofs.YtepfbdfbfimefaaDoor.Tyed

theorem cn_le {v k : Nat} (h : v < 4294967296 ^ k) : (cn v).length ≤ k := by
  by_cases h0 : v = 0
  · rw [h0, cn0]; simp
  · obtain ⟨h1, h2⟩ := cn_len v h0
    have := (Nat.pow_lt_pow_iff_right (by decide : 1 < 4294967296)).1 (Nat.lt_of_le_of_lt h2 h)
    omega

theorem cn_two {v : Nat} (h : 4294967296 ≤ v) (h2 : v < 18446744073709551616) : cn v = [((v % 4294967296 : Nat) : Int), ((v / 4294967296 : Nat) : Int)] := by
  rw [cnS (by omega), cn_one (by omega) (by omega)]

/-- The highest bit is set. -/
theorem kn_shift {Y k s : Nat} (hb : Bl Y k) (hY : 4294967296 ≤ Y) (hY2 : Y < 18446744073709551616) (hs : s + k = 64) : s ≤ 31 ∧ 9223372036854775808 ≤ Y * 2 ^ s ∧ Y * 2 ^ s < 18446744073709551616 := by
  rcases hb with ⟨h, _⟩ | ⟨h1, h2, h3⟩
  · omega
  · have hk : 33 ≤ k := by
      refine Nat.le_of_not_lt fun h => ?_
      have : 2 ^ k ≤ 2 ^ 32 := Nat.pow_le_pow_right (by decide) (by omega)
      omega
    refine ⟨by omega, ?_, ?_⟩
    · have e : 2 ^ (k - 1) * 2 ^ s = 9223372036854775808 := by rw [← Nat.pow_add, show k - 1 + s = 63 by omega]
      rw [← e]
      exact Nat.mul_le_mul_right _ h2
    · have e : 2 ^ k * 2 ^ s = 18446744073709551616 := by rw [← Nat.pow_add, show k + s = 64 by omega]
      rw [← e]
      exact Nat.mul_lt_mul_of_pos_right h3 (Nat.pow_pos (by decide))

theorem kn_start {X s V n : Nat} (hX : X < 4294967296 ^ n) (hs : s ≤ 31) (hV : 9223372036854775808 ≤ V) (hn : 1 ≤ n) : X * 2 ^ s < V * 4294967296 ^ (n - 1) ∧ X * 2 ^ s < 4294967296 ^ (n + 1) := by
  have h1 : 2 ^ s ≤ 2147483648 := Nat.le_trans (Nat.pow_le_pow_right (show 0 < 2 by decide) hs) (by decide)
  have e : 4294967296 ^ n = 4294967296 ^ (n - 1) * 4294967296 := by rw [← Nat.pow_succ, show (n - 1).succ = n by omega]
  have h2 : X * 2 ^ s < 4294967296 ^ n * 2147483648 := Nat.lt_of_le_of_lt (Nat.mul_le_mul_left _ h1) (Nat.mul_lt_mul_of_pos_right hX (by decide))
  constructor
  · have h3 := Nat.mul_le_mul_right (4294967296 ^ (n - 1)) hV
    generalize 4294967296 ^ (n - 1) = Q at *
    generalize 4294967296 ^ n = Q2 at *
    generalize X * 2 ^ s = A at *
    generalize V * Q = B at *
    omega
  · have e2 : 4294967296 ^ (n + 1) = 4294967296 ^ n * 4294967296 := Nat.pow_succ ..
    generalize 4294967296 ^ (n + 1) = Q3 at *
    generalize 4294967296 ^ n = Q2 at *
    generalize X * 2 ^ s = A at *
    omega

/-- What follows two ways is shown once. -/
theorem share {I : St → Prop} {G : Prop} {VC : St → (Exit → St → Prop) → Prop} {KK : Exit → St → Prop} (hG : (∀ s, I s → LoopP VC s KK) → G) (h : ∀ s, I s → LoopP VC s KK) : G := hG h

structure Ldo where
  j : Int
  us : List Value
  qs : List Value

structure Lpt where
  p : Int
  t : Int

structure Lms where
  i : Int
  c : Int
  b : Int
  us : List Value






set_option maxRecDepth 100000 in
set_option maxHeartbeats 4000000 in
theorem div2P {P : Program} (hP : P = Tryd.prog) (R : RO) (a b : Option Addr) (n c k e X Y : Nat) (h : RI R .u32 a n (cn X)) (hc : n ≤ c) (hn : n ≤ 9000) (h2 : RI R .u32 b k (cn Y)) (hY : 4294967296 ≤ Y) (hY2 : Y < 18446744073709551616) :
    RetP P 49 [.slice a n c, .slice b k e] R fun R' r => ∃ a' n' c' b' k' e', r = .tuple #[.slice a' n' c', .slice b' k' e'] ∧ RI R' .u32 a' n' (cn (X / Y)) ∧ n' ≤ c' ∧ RI R' .u32 b' k' (cn (X % Y)) ∧ k' ≤ e' := by
  subst hP
  have hk : k = 2 := by rw [h2.len, cn_two hY hY2]; rfl
  have hl := h.len
  have hXn := cn_lt X
  rw [← hl] at hXn
  refine retP_vc (fz := []) Tryd.func49 rfl (by decide) rfl ok49 ?_
  intro P bin cmp cnv neg com bnot beq ofN toN at_ sub_ scmp cat sget ssz ssub elem fld_ hP hA
  conv => cbv
  have ok := ofN_ hA k
  have o := ofN_ hA n
  refine br_f (by rw [ok, cmp_eql hA]; simp; omega) ?_
  conv => cbv
  refine (cmpN hP R a b n c k e X Y h (by omega) h2 (by omega)).callQ rfl ?_
  rintro _ ⟨ci, rfl, hci, -⟩
  conv => cbv
  by_cases hlt : X < Y
  · refine br_t (by rw [cmp_lss hA]; exact decide_eq_true (hci.2 hlt)) ?_
    conv => cbv
    intro ρ R'' hle _ _
    exact ⟨none, 0, 0, a, n, c, rfl, by rw [Nat.div_eq_of_lt hlt, cn0]; exact RI.nil, Nat.le_refl _, by rw [Nat.mod_eq_of_lt hlt]; exact h.le hle, hc⟩
  refine br_f (by rw [cmp_lss hA]; exact decide_eq_false fun e => hlt (hci.1 e)) ?_
  conv => cbv
  have hn2 : 2 ≤ n := by
    refine Nat.le_of_not_lt fun h1 => ?_
    have : 4294967296 ^ n ≤ 4294967296 ^ 1 := Nat.pow_le_pow_right (by decide) (by omega)
    omega
  refine br_f (by rw [ok, cmp_eql hA]; simp; omega) ?_
  conv => cbv
  refine (bitLenP hP R b k e Y h2 (by omega)).callQ rfl ?_
  rintro _ ⟨ki, kb, rfl, hki, hbl⟩
  conv => cbv
  obtain ⟨s, hs⟩ : ∃ s, s = 64 - kb := ⟨_, rfl⟩
  have hkb : kb ≤ 64 := by
    rcases hbl with ⟨h0, _⟩ | ⟨h1, h3, _⟩
    · omega
    · refine Nat.le_of_not_lt fun h4 => ?_
      have : 2 ^ 64 ≤ 2 ^ (kb - 1) := Nat.pow_le_pow_right (by decide) (by omega)
      omega
  obtain ⟨hs31, hVlo, hVhi⟩ := kn_shift hbl hY hY2 (show s + kb = 64 by omega)
  have es : cnv .u64 (bin .sub .i64 (bin .mul .i64 32 (ofN k)) ki) = (s : Int) := by
    have e1 : bin .mul .i64 32 (ofN k) = 64 := by rw [ok, hk, mul_i64 hA (by decide)]; rfl
    rw [e1, hki, sub_i64 hA (by omega), cnv_u64 hA (by omega)]
    omega
  obtain ⟨sv, hsve⟩ : ∃ sv, sv = cnv .u64 (bin .sub .i64 (bin .mul .i64 32 (ofN k)) ki) := ⟨_, rfl⟩
  rw [← hsve] at es
  have hsv : sv = s := es
  simp (maxSteps := 10000000) only [← hsve]
  refine ⟨[0, 1, 3, 4, 5, 1002, 6, 3, 7, 6, 8, 2, 7, 8], [6], mix2 hP, by decide +kernel, ?_⟩
  conv => cbv
  have el : bin .add .i64 (ofN n) 1 = ((n + 1 : Nat) : Int) := by rw [o, add_i64 hA (by omega)]; rfl
  obtain ⟨N1, hN1⟩ : ∃ N1, N1 = n + 1 := ⟨_, rfl⟩
  have oN1 := ofN_ hA N1
  refine ⟨?_, ?_⟩
  · refine (lshG hP R b k e Y s sv hsv h2 (by omega) (by omega) (by omega)).callP rfl ?_
    rintro R1 _ hR1 ⟨av, nv_, cv, rfl, hv, hcv⟩
    conv => cbv
    refine ⟨⟨trivial, .refl _⟩, ?_⟩
    conv => cbv
    refine ⟨by rw [el]; omega, by rw [el]; omega, by rw [el]; omega, by rw [el]; omega, ?_⟩
    intro au nz cz z hnz hcz hz
    rw [el] at hnz hcz
    obtain rfl : N1 = nz := by omega
    obtain rfl : N1 = cz := by omega
    rw [zeros] at hz
    conv => cbv
    obtain ⟨V, hV⟩ : ∃ V, V = Y * 2 ^ s := ⟨_, rfl⟩
    rw [← hV] at hv hVlo hVhi
    obtain ⟨U, hU⟩ : ∃ U, U = X * 2 ^ s := ⟨_, rfl⟩
    have hcnV := cn_two (show 4294967296 ≤ V by omega) hVhi
    have hnv2 : nv_ = 2 := by rw [hv.len, hcnV]; rfl
    have hst := kn_start hXn hs31 hVlo (show 1 ≤ n by omega)
    rw [← hU] at hst
    refine (lshG hP R1 a n c X s sv hsv (h.le hR1) (by omega) (by omega) (by omega)).callP rfl ?_
    rintro R2 _ hR2 ⟨ax, nx2, cx2, rfl, hx2, hcx2⟩
    rw [← hU] at hx2
    have hnx2 : nx2 ≤ n + 1 := by rw [hx2.len]; exact cn_le hst.2
    conv => cbv
    refine ⟨nx2, _, hx2.src, .inr ⟨0, _, _, 0, _, rfl, rfl, rfl, rfl, by show 0 + min nx2 N1 * 1 ≤ z.length; rw [hz, ints_len, List.length_replicate]; omega, ?_⟩⟩
    intro n2 uz hn2' huz
    obtain rfl : nx2 = n2 := by omega
    have huz' : uz = ints .u32 (cn U ++ List.replicate (N1 - nx2) 0) := by
      rw [huz]
      show List.take 0 z ++ List.take (nx2 * 1) (ints .u32 (cn U)) ++ List.drop (0 + nx2 * 1) z = _
      have e1 : List.take nx2 (ints .u32 (cn U)) = ints .u32 (cn U) := List.take_of_length_le (by rw [ints_len, ← hx2.len]; exact Nat.le_refl _)
      rw [hz, Nat.mul_one, Nat.zero_add, e1]
      simp [ints]
    obtain ⟨us0, hus0⟩ : ∃ us0, us0 = cn U ++ List.replicate (N1 - nx2) 0 := ⟨_, rfl⟩
    rw [← hus0] at huz'
    have hul0 : us0.length = N1 := by rw [hus0, List.length_append, ← hx2.len, List.length_replicate]; omega
    have hud0 : Dg us0 := fun x hx => by
      rw [hus0] at hx
      rcases List.mem_append.1 hx with hx | hx
      · exact cn_dg _ x hx
      · exact dg_zero _ x hx
    have hun0 : nv us0 = U := by rw [hus0, nv_app, nv_zero, nv_cn]; simp
    clear huz hz
    conv => cbv
    have onv := ofN_ hA nv_
    have hv2 := hv.le hR2
    have eqn : bin .add .i64 (bin .sub .i64 (ofN n) (ofN nv_)) 1 = ((n - 1 : Nat) : Int) := by
      have e1 : bin .sub .i64 (ofN n) (ofN nv_) = ((n - 2 : Nat) : Int) := by rw [o, onv, sub_i64 hA (by omega)]; omega
      rw [e1, add_i64 hA (by omega)]
      omega
    refine ⟨by rw [eqn]; omega, by rw [eqn]; omega, by rw [eqn]; omega, by rw [eqn]; omega, ?_⟩
    intro aq nq cq zq hnq hcq hzq
    rw [eqn] at hnq hcq
    obtain ⟨Qn, hQn⟩ : ∃ Qn, Qn = n - 1 := ⟨_, rfl⟩
    obtain rfl : Qn = nq := by omega
    obtain rfl : Qn = cq := by omega
    rw [zeros] at hzq
    have oQ := ofN_ hA Qn
    conv => cbv
    have ejj0 : bin .sub .i64 (ofN n) (ofN nv_) = (Qn : Int) - 1 := by rw [o, onv, sub_i64 hA (by omega)]; omega
    refine ⟨Ldo, fun x => ⟨[(12, .v (.int .i64 x.j)), (4, .v (.slice (some aq) Qn Qn)), (9, .v (.slice av nv_ cv)), (10, .v (.slice (some au) N1 N1)), (11, .v (.int .i64 (ofN nv_))), (8, .v (.int .u64 sv))], R2, [], 0, [⟨some aq, Qn, Qn, 68, 1, x.qs⟩, ⟨some au, N1, N1, 68, 1, x.us⟩]⟩,
      fun m x => ∃ (t : Nat) (us qs : List Int), x.j = (t : Int) - 1 ∧ t ≤ Qn ∧ m = t ∧ x.us = ints .u32 us ∧ us.length = N1 ∧ Dg us ∧ x.qs = ints .u32 qs ∧ qs.length = Qn ∧ Dg qs ∧ nv us + nv qs * V = U ∧ nv us < V * 4294967296 ^ t ∧ ∀ i, i < t → qs[i]? = some 0,
      ⟨Qn, ⟨bin .sub .i64 (ofN n) (ofN nv_), uz, zq⟩, ⟨⟨rfl, rfl, rfl, rfl, rfl, rfl, trivial⟩, rfl, trivial, rfl, .refl _⟩, Qn, us0, _, ejj0, Nat.le_refl _, rfl, huz', hul0, hud0, hzq, by simp, dg_zero _, by rw [nv_zero, hun0]; simp, by rw [hun0, hQn]; exact hst.1, fun i hi => by rw [List.getElem?_replicate, if_pos hi]⟩, ?_⟩
    rintro m ⟨jj, uz1, qz⟩ ⟨t, us, qs, hj, htQ, hm, huz1, hul, hud, hqz, hql, hqd, hinv, hlt2, hq0⟩
    simp only at hj huz1 hqz
    conv => cbv
    by_cases ht : 0 < t
    case neg =>
      obtain rfl : t = 0 := by omega
      refine br_f (by rw [cmp_geq hA]; simp; omega) ?_
      conv => cbv
      rw [Nat.pow_zero, Nat.mul_one] at hlt2
      have hVp : 0 < V := by omega
      have hqv : nv qs = X / Y := by
        have e1 : U / V = nv qs := by rw [← hinv, Nat.add_mul_div_right _ _ hVp, Nat.div_eq_of_lt hlt2, Nat.zero_add]
        rw [← e1, hU, hV, Nat.mul_div_mul_right _ _ (Nat.pow_pos (by decide))]
      have hrv : nv us / 2 ^ s = X % Y := by
        have e1 : U % V = nv us := by rw [← hinv, Nat.add_mul_mod_self_right, Nat.mod_eq_of_lt hlt2]
        rw [← e1, hU, hV, Nat.mul_mod_mul_right, Nat.mul_div_cancel _ (Nat.pow_pos (by decide))]
      refine CallP.pub 0 rfl (fun R3 hR3 hp3 => ?_) ⟨_, by rw [hP]; exact Tryd.func36, by decide, rfl⟩
      have hr3 : RI R3 .u32 (some aq) Qn qs := hp3.ri hql.symm (fun _ => rfl) rfl hqz hqd.wf
      refine (normP hP R3 (some aq) Qn Qn qs hr3 (Nat.le_refl _) (by omega)).callP rfl ?_
      rintro R4 _ hR4 ⟨a4, n4, c4, rfl, hr4, hc4⟩
      rw [hqv] at hr4
      conv => cbv
      refine CallP.pub 0 rfl (fun R5 hR5 hp5 => ?_) ⟨_, by rw [hP]; exact Tryd.func36, by decide, rfl⟩
      have hr5 : RI R5 .u32 (some au) N1 us := hp5.ri hul.symm (fun _ => rfl) rfl huz1 hud.wf
      refine (normP hP R5 (some au) N1 N1 us hr5 (Nat.le_refl _) (by omega)).callP rfl ?_
      rintro R6 _ hR6 ⟨a6, n6, c6, rfl, hr6, hc6⟩
      conv => cbv
      have hn6 : n6 ≤ 10000 := by
        rw [hr6.len]
        refine Nat.le_trans (cn_le (k := N1) ?_) (by omega)
        rw [← hul]
        exact nv_lt hud
      refine (rshP hP R6 a6 n6 c6 (nv us) s sv hsv hr6 hc6 hn6 (by omega)).callP rfl ?_
      rintro R7 _ hR7 ⟨a7, n7, c7, rfl, hr7, hc7⟩
      rw [hrv] at hr7
      conv => cbv
      intro ρ R'' hle _ _
      exact ⟨a4, n4, c4, a7, n7, c7, rfl, hr4.le (RO.le_trans hR5 (RO.le_trans hR6 (RO.le_trans hR7 hle))), hc4, hr7.le hle, hc7⟩
    refine br_t (by rw [cmp_geq hA]; simp; omega) ?_
    conv => cbv
    obtain ⟨j, hj1⟩ : ∃ j, j = t - 1 := ⟨_, rfl⟩
    have hjj : jj = (j : Int) := by omega
    obtain rfl : t = j + 1 := by omega
    refine ⟨[0, 1, 2, 3, 4, 5, 6, 7, 8, 9, 10, 11, 12, 13, 14, 15, 16, 17], [], mix2 hP, by decide +kernel, ?_⟩
    conv => cbv
    have ej2 : bin .add .i64 jj (ofN nv_) = ((j + 2 : Nat) : Int) := by rw [hjj, onv, add_i64 hA (by omega)]; omega
    have ej1 : bin .sub .i64 (bin .add .i64 jj (ofN nv_)) 1 = ((j + 1 : Nat) : Int) := by rw [ej2, sub_i64 hA (by omega)]; omega
    have ej0 : bin .sub .i64 (bin .add .i64 jj (ofN nv_)) 2 = ((j : Nat) : Int) := by rw [ej2, sub_i64 hA (by omega)]; omega
    have en1 : bin .sub .i64 (ofN nv_) 1 = ((1 : Nat) : Int) := by rw [onv, sub_i64 hA (by omega)]; omega
    have en0 : bin .sub .i64 (ofN nv_) 2 = ((0 : Nat) : Int) := by rw [onv, sub_i64 hA (by omega)]; omega
    obtain ⟨d0, u0, g0, hd0, hu0B⟩ := ex_get hud (show j < us.length by omega)
    obtain ⟨d1, u1, g1, hd1, hu1B⟩ := ex_get hud (show j + 1 < us.length by omega)
    obtain ⟨d2, u2, g2, hd2, hu2B⟩ := ex_get hud (show j + 2 < us.length by omega)
    obtain ⟨W, hW⟩ : ∃ W, W = nv us / 4294967296 ^ j := ⟨_, rfl⟩
    obtain ⟨hWV, hd0W, hd1W, hd2W⟩ := nv_get3 hud j (by omega) g0 g1 g2 hVhi hlt2 hW
    obtain ⟨v0, hv0⟩ : ∃ v0, v0 = V % 4294967296 := ⟨_, rfl⟩
    obtain ⟨v1, hv1⟩ : ∃ v1, v1 = V / 4294967296 := ⟨_, rfl⟩
    have hv0B : v0 < 4294967296 := by omega
    have hv1B : v1 < 4294967296 := by omega
    have hVV : V = v1 * 4294967296 + v0 := by omega
    have hv1h : 4294967296 ≤ 2 * v1 := by omega
    obtain ⟨AA, hAA⟩ : ∃ AA, AA = W / 4294967296 := ⟨_, rfl⟩
    have hWW : W = AA * 4294967296 + u0 := by omega
    refine ⟨by rw [ej2]; omega, by rw [ej2, oN1]; omega, rfl, ?_⟩
    refine ld_row hA 1 (r := ⟨some au, N1, N1, 68, 1, uz1⟩) rfl rfl rfl (v := .int .u32 d2) (by show uz1[_]? = _; rw [ej2, huz1, ints, List.getElem?_map, Int.toNat_natCast, g2]; rfl) ?_
    conv => cbv
    refine ⟨by decide, ?_⟩
    refine ⟨by rw [ej1]; omega, by rw [ej1, oN1]; omega, rfl, ?_⟩
    refine ld_row hA 1 (r := ⟨some au, N1, N1, 68, 1, uz1⟩) rfl rfl rfl (v := .int .u32 d1) (by show uz1[_]? = _; rw [ej1, huz1, ints, List.getElem?_map, Int.toNat_natCast, g1]; rfl) ?_
    have eA : bin .or .u64 (bin .shl .u64 (cnv .u64 d2) 32) (cnv .u64 d1) = (AA : Int) := by
      rw [hd2, hd1, cnv_u64 hA (by omega), cnv_u64 hA (by omega), or_low hA hu2B hu1B]
      omega
    obtain ⟨av_, hav⟩ : ∃ av_, av_ = bin .or .u64 (bin .shl .u64 (cnv .u64 d2) 32) (cnv .u64 d1) := ⟨_, rfl⟩
    rw [← hav] at eA
    conv => cbv
    simp (maxSteps := 10000000) only [← hav]
    refine ⟨[0, 1, 2, 3, 4, 5, 6, 7, 8, 9, 10, 11, 12, 13, 14, 15, 16, 17], [], mix2 hP, by decide +kernel, ?_⟩
    conv => cbv
    refine ix_ri hv2 onv 1 en1 (by omega) ?_
    refine ld_ri hA hv2 (by omega) (by omega) ?_
    intro y1 hy1 _
    have hy1v : y1 = (v1 : Int) := by rw [hy1, en1, hcnV, hv1]; rfl
    conv => cbv
    have ey1 : cnv .u64 y1 = (v1 : Int) := by rw [hy1v, cnv_u64 hA (by omega)]
    refine ⟨by rw [ey1]; omega, ?_⟩
    refine ix_ri hv2 onv 1 en1 (by omega) ?_
    refine ld_ri hA hv2 (by omega) (by omega) ?_
    intro y2 hy2 _
    obtain rfl : y1 = y2 := by rw [hy1, hy2]
    conv => cbv
    refine ⟨by rw [ey1]; omega, ?_⟩
    have ep0 : bin .quo .u64 av_ (cnv .u64 y1) = ((AA / v1 : Nat) : Int) := by
      rw [ey1, eA, quo_u64 hA (by omega) (by omega) (by omega)]
      exact (Int.natCast_ediv _ _).symm
    have et0 : bin .rem .u64 av_ (cnv .u64 y1) = ((AA % v1 : Nat) : Int) := by
      rw [ey1, eA, rem_u64 hA (by omega)]
      exact (Int.natCast_emod _ _).symm
    have hin := kn_init hVV hWW (by omega) hv0B hv1h hWV
    have htm : AA % v1 < v1 := Nat.mod_lt _ (by omega)
    conv => cbv
    apply share (I := fun s => ∃ PP : Int, PP = ((W / V : Nat) : Int) ∧ W / V < 4294967296 ∧ Wk s.nx s ⟨[(18, .v (.int .i64 0)), (16, .v (.int .u64 0)), (17, .v (.int .u64 0)), (14, .v (.int .u64 PP)), (12, .v (.int .i64 jj)), (4, .v (.slice (some aq) Qn Qn)), (9, .v (.slice av nv_ cv)), (10, .v (.slice (some au) N1 N1)), (11, .v (.int .i64 (ofN nv_))), (8, .v (.int .u64 sv))], R2, [], 0, [⟨some aq, Qn, Qn, 68, 1, qz⟩, ⟨some au, N1, N1, 68, 1, uz1⟩]⟩)
    intro rest
    refine ⟨Lpt, fun x => ⟨[(14, .v (.int .u64 x.p)), (15, .v (.int .u64 x.t)), (12, .v (.int .i64 jj)), (4, .v (.slice (some aq) Qn Qn)), (9, .v (.slice av nv_ cv)), (10, .v (.slice (some au) N1 N1)), (11, .v (.int .i64 (ofN nv_))), (8, .v (.int .u64 sv))], R2, [], 0, [⟨some aq, Qn, Qn, 68, 1, qz⟩, ⟨some au, N1, N1, 68, 1, uz1⟩]⟩,
      fun m x => ∃ p t : Nat, x.p = p ∧ x.t = t ∧ m = p ∧ p * v1 + t = AA ∧ W / V ≤ p ∧ p ≤ 4294967297 ∧ t < 4294967296,
      ⟨AA / v1, ⟨bin .quo .u64 av_ (cnv .u64 y1), bin .rem .u64 av_ (cnv .u64 y1)⟩, ⟨⟨rfl, rfl, rfl, rfl, rfl, rfl, rfl, rfl, trivial⟩, rfl, trivial, rfl, .refl _⟩, _, _, ep0, et0, rfl, Nat.div_add_mod' _ _, hin.2, hin.1, by omega⟩, ?_⟩
    rintro m2 ⟨pi, ti⟩ ⟨p, t, hp, ht2, hm2, hpt, hpW, hpB, htB⟩
    simp only at hp ht2
    conv => cbv
    refine ⟨[0, 1, 2, 3, 4, 5, 6, 7, 8, 9, 10, 11, 12, 13, 14, 15, 16, 17, 18, 19, 20, 21, 22, 23, 24], [], mix2 hP, by decide +kernel, ?_⟩
    conv => cbv
    refine ⟨by decide, ?_⟩
    by_cases hbig : 4294967296 ≤ p
    · have cb : cmp .neq (bin .shr .u64 pi 32) 0 = true := by
        rw [hp, shr_u64 hA (by decide), cmp_neq hA]
        show ((p : Int) / 2 ^ 32 != 0) = true
        simp
        omega
      simp (maxSteps := 10000000) only [cb]
      conv => cbv
      have hdec := kn_dec hVV hWW (by omega) hv0B hv1h hWV hpt (.inl hbig)
      have hp1 : 1 ≤ p := Nat.lt_of_le_of_lt (Nat.zero_le _) hdec
      have hpW2 : W / V ≤ p - 1 := Nat.le_sub_one_of_lt hdec
      have e1 : bin .sub .u64 pi 1 = ((p - 1 : Nat) : Int) := by rw [hp, sub_u64 hA (by omega)]; omega
      refine ix_ri hv2 onv 1 en1 (by omega) ?_
      refine ld_ri hA hv2 (by omega) (by omega) ?_
      intro y3 hy3 _
      have hy3v : y3 = (v1 : Int) := by rw [hy3, en1, hcnV, hv1]; rfl
      have e2 : bin .add .u64 ti (cnv .u64 y3) = ((t + v1 : Nat) : Int) := by rw [ht2, hy3v, cnv_u64 hA (by omega), add_u64 hA (by omega)]; omega
      have hpt2 : (p - 1) * v1 + (t + v1) = AA := by
        obtain ⟨p1, rfl⟩ : ∃ p1, p = p1 + 1 := ⟨p - 1, by omega⟩
        rw [Nat.add_mul, Nat.one_mul] at hpt
        rw [Nat.add_sub_cancel]
        omega
      conv => cbv
      refine ⟨by decide, ?_⟩
      by_cases hbk : 4294967296 ≤ t + v1
      · have cb2 : cmp .neq (bin .shr .u64 (bin .add .u64 ti (cnv .u64 y3)) 32) 0 = true := by
          rw [e2, shr_u64 hA (by decide), cmp_neq hA]
          show (((t + v1 : Nat) : Int) / 2 ^ 32 != 0) = true
          simp
          omega
        refine br_t cb2 ?_
        conv => cbv
        have hpq := kn_end hVV hWW (by omega) hv0B hv1h hpt2 (kn_brk (by omega) hv0B hbk) hpW2
        have hpp : bin .sub .u64 pi 1 = ((W / V : Nat) : Int) := by rw [e1, hpq]
        have hpqB : W / V < 4294967296 := by
          rw [Nat.div_lt_iff_lt_mul (by omega), Nat.mul_comm]
          exact hWV
        refine rest _ ⟨(bin .sub .u64 pi 1), hpp, hpqB, ⟨⟨rfl, rfl, rfl, rfl, rfl, rfl, rfl, rfl, rfl, rfl, trivial⟩, rfl, trivial, rfl, .refl _⟩⟩
      · have cb2 : cmp .neq (bin .shr .u64 (bin .add .u64 ti (cnv .u64 y3)) 32) 0 = false := by
          rw [e2, shr_u64 hA (by decide), cmp_neq hA]
          show (((t + v1 : Nat) : Int) / 2 ^ 32 != 0) = false
          simp
          omega
        refine br_f cb2 ?_
        conv => cbv
        exact ⟨p - 1, ⟨bin .sub .u64 pi 1, bin .add .u64 ti (cnv .u64 y3)⟩, by omega, ⟨⟨rfl, rfl, rfl, rfl, rfl, rfl, rfl, rfl, trivial⟩, rfl, trivial, rfl, .refl _⟩, p - 1, t + v1, e1, e2, rfl, hpt2, hpW2, by omega, by omega⟩
    · have cb : cmp .neq (bin .shr .u64 pi 32) 0 = false := by
        rw [hp, shr_u64 hA (by decide), cmp_neq hA]
        show ((p : Int) / 2 ^ 32 != 0) = false
        simp
        omega
      simp (maxSteps := 10000000) only [cb]
      conv => cbv
      refine ix_ri hv2 onv 0 en0 (by omega) ?_
      refine ld_ri hA hv2 (by omega) (by omega) ?_
      intro w0 hw0 _
      have hw0v : w0 = (v0 : Int) := by rw [hw0, en0, hcnV, hv0]; rfl
      conv => cbv
      refine ⟨by decide, ?_⟩
      refine ⟨by rw [ej0]; omega, by rw [ej0, oN1]; omega, rfl, ?_⟩
      refine ld_row hA 1 (r := ⟨some au, N1, N1, 68, 1, uz1⟩) rfl rfl rfl (v := .int .u32 d0) (by show uz1[_]? = _; rw [ej0, huz1, ints, List.getElem?_map, Int.toNat_natCast, g0]; rfl) ?_
      have hpv0 := Nat.mul_le_mul (show p ≤ 4294967295 by omega) (show v0 ≤ 4294967295 by omega)
      have em0 : bin .mul .u64 pi (cnv .u64 w0) = ((p * v0 : Nat) : Int) := by
        rw [hp, hw0v, cnv_u64 hA (by omega), mul_u64 hA ⟨by rw [← Int.natCast_mul]; exact Int.natCast_nonneg _, by rw [← Int.natCast_mul]; omega⟩, Int.natCast_mul]
      have eo0 : bin .or .u64 (bin .shl .u64 ti 32) (cnv .u64 d0) = ((t * 4294967296 + u0 : Nat) : Int) := by
        rw [ht2, hd0, cnv_u64 hA (by omega), or_low hA htB hu0B]
      have cg : cmp .gtr (bin .mul .u64 pi (cnv .u64 w0)) (bin .or .u64 (bin .shl .u64 ti 32) (cnv .u64 d0)) = decide (t * 4294967296 + u0 < p * v0) := by
        rw [em0, eo0, cmp_gtr hA]
        generalize p * v0 = PV
        simp only [gt_iff_lt, Int.ofNat_lt]
      by_cases hgt : t * 4294967296 + u0 < p * v0
      · rw [decide_eq_true hgt] at cg
        conv => cbv
        simp (maxSteps := 10000000) only [cg]
        conv => cbv
        have hdec := kn_dec hVV hWW (by omega) hv0B hv1h hWV hpt (.inr hgt)
        have hp1 : 1 ≤ p := Nat.lt_of_le_of_lt (Nat.zero_le _) hdec
        have hpW2 : W / V ≤ p - 1 := Nat.le_sub_one_of_lt hdec
        have e1 : bin .sub .u64 pi 1 = ((p - 1 : Nat) : Int) := by rw [hp, sub_u64 hA (by omega)]; omega
        refine ix_ri hv2 onv 1 en1 (by omega) ?_
        refine ld_ri hA hv2 (by omega) (by omega) ?_
        intro y3 hy3 _
        have hy3v : y3 = (v1 : Int) := by rw [hy3, en1, hcnV, hv1]; rfl
        have e2 : bin .add .u64 ti (cnv .u64 y3) = ((t + v1 : Nat) : Int) := by rw [ht2, hy3v, cnv_u64 hA (by omega), add_u64 hA (by omega)]; omega
        have hpt2 : (p - 1) * v1 + (t + v1) = AA := by
          obtain ⟨p1, rfl⟩ : ∃ p1, p = p1 + 1 := ⟨p - 1, by omega⟩
          rw [Nat.add_mul, Nat.one_mul] at hpt
          rw [Nat.add_sub_cancel]
          omega
        conv => cbv
        refine ⟨by decide, ?_⟩
        by_cases hbk : 4294967296 ≤ t + v1
        · have cb2 : cmp .neq (bin .shr .u64 (bin .add .u64 ti (cnv .u64 y3)) 32) 0 = true := by
            rw [e2, shr_u64 hA (by decide), cmp_neq hA]
            show (((t + v1 : Nat) : Int) / 2 ^ 32 != 0) = true
            simp
            omega
          refine br_t cb2 ?_
          conv => cbv
          have hpq := kn_end hVV hWW (by omega) hv0B hv1h hpt2 (kn_brk (by omega) hv0B hbk) hpW2
          have hpp : bin .sub .u64 pi 1 = ((W / V : Nat) : Int) := by rw [e1, hpq]
          have hpqB : W / V < 4294967296 := by
            rw [Nat.div_lt_iff_lt_mul (by omega), Nat.mul_comm]
            exact hWV
          refine rest _ ⟨(bin .sub .u64 pi 1), hpp, hpqB, ⟨⟨rfl, rfl, rfl, rfl, rfl, rfl, rfl, rfl, rfl, rfl, trivial⟩, rfl, trivial, rfl, .refl _⟩⟩
        · have cb2 : cmp .neq (bin .shr .u64 (bin .add .u64 ti (cnv .u64 y3)) 32) 0 = false := by
            rw [e2, shr_u64 hA (by decide), cmp_neq hA]
            show (((t + v1 : Nat) : Int) / 2 ^ 32 != 0) = false
            simp
            omega
          refine br_f cb2 ?_
          conv => cbv
          exact ⟨p - 1, ⟨bin .sub .u64 pi 1, bin .add .u64 ti (cnv .u64 y3)⟩, by omega, ⟨⟨rfl, rfl, rfl, rfl, rfl, rfl, rfl, rfl, trivial⟩, rfl, trivial, rfl, .refl _⟩, p - 1, t + v1, e1, e2, rfl, hpt2, hpW2, by omega, by omega⟩
      · rw [decide_eq_false hgt] at cg
        conv => cbv
        simp (maxSteps := 10000000) only [cg]
        conv => cbv
        have hpq := kn_end hVV hWW (by omega) hv0B hv1h hpt (by omega) hpW
        have hpp : pi = ((W / V : Nat) : Int) := by rw [hp, hpq]
        have hpqB : W / V < 4294967296 := by omega
        refine rest _ ⟨pi, hpp, hpqB, ⟨⟨rfl, rfl, rfl, rfl, rfl, rfl, rfl, rfl, rfl, rfl, trivial⟩, rfl, trivial, rfl, .refl _⟩⟩
    case h =>
      rintro s ⟨PP, hpp, hpqB, hwk⟩
      obtain ⟨pq, hpqe⟩ : ∃ pq, pq = W / V := ⟨_, rfl⟩
      rw [← hpqe] at hpp hpqB
      obtain ⟨x0, c0, b0, x1, c1, b1, hs0, hs1, hks, hxx, hc1⟩ := kn_round hu0B hu1B hu2B hv0B hv1B (show W = u0 + u1 * 4294967296 + u2 * 18446744073709551616 by omega) hVV (by omega) hpqe hpqB
      clear hin ep0 et0 htm ey1 hy1v hy1 hy2 eA hav hWW hAA
      refine ⟨Lms, fun x => ⟨[(18, .v (.int .i64 x.i)), (16, .v (.int .u64 x.c)), (17, .v (.int .u64 x.b)), (14, .v (.int .u64 PP)), (12, .v (.int .i64 jj)), (4, .v (.slice (some aq) Qn Qn)), (9, .v (.slice av nv_ cv)), (10, .v (.slice (some au) N1 N1)), (11, .v (.int .i64 (ofN nv_))), (8, .v (.int .u64 sv))], R2, [], 0, [⟨some aq, Qn, Qn, 68, 1, qz⟩, ⟨some au, N1, N1, 68, 1, x.us⟩]⟩,
        fun m' x => ∃ (i c b : Nat) (ws : List Int), x.i = i ∧ i ≤ 2 ∧ m' = 2 - i ∧ x.c = c ∧ x.b = b ∧ x.us = ints .u32 ws ∧ b ≤ 1 ∧ ((i = 0 ∧ c = 0 ∧ b = 0 ∧ ws = us) ∨ (i = 1 ∧ c = c0 ∧ b = b0 ∧ ws = us.set j (x0 : Int)) ∨ (i = 2 ∧ c = c1 ∧ b = b1 ∧ ws = (us.set j (x0 : Int)).set (j + 1) (x1 : Int))),
        ⟨2, ⟨0, 0, 0, uz1⟩, hwk, 0, 0, 0, us, rfl, by decide, rfl, rfl, rfl, huz1, by decide, .inl ⟨rfl, rfl, rfl, rfl⟩⟩, ?_⟩
      rintro m' ⟨ii, ci, bi, wz⟩ ⟨i, c, b, ws, hi, hi2, hm', hci, hbi, hwz, hb1', hcase⟩
      simp only at hi hci hbi hwz
      have hwl : ws.length = N1 := by
        rcases hcase with ⟨_, _, _, rfl⟩ | ⟨_, _, _, rfl⟩ | ⟨_, _, _, rfl⟩ <;> simp [hul]
      conv => cbv
      by_cases hilt : i < 2
      · -- a digit
        refine br_t (by rw [onv, cmp_lss hA]; simp; omega) ?_
        conv => cbv
        refine ix_ri hv2 onv i hi (by omega) ?_
        refine ld_ri hA hv2 (by omega) (by omega) ?_
        intro vd hvd _
        obtain ⟨vN, uN, wi, G, hvN, hgi, hwi, hvB, huB, hG, hGB, hnx⟩ : ∃ (vN uN : Nat) (wi : Int) (G : Nat), vd = vN ∧ ws[j + i]? = some wi ∧ wi = uN ∧ vN < 4294967296 ∧ uN < 4294967296 ∧ G = c + pq * vN ∧ G < 18446744073709551616 ∧
            ((i + 1 = 1 ∧ G / 4294967296 = c0 ∧ sb64 uN (G % 4294967296) b / 9223372036854775808 = b0 ∧ ws.set (j + i) ((sb64 uN (G % 4294967296) b % 4294967296 : Nat) : Int) = us.set j (x0 : Int)) ∨
            (i + 1 = 2 ∧ G / 4294967296 = c1 ∧ sb64 uN (G % 4294967296) b / 9223372036854775808 = b1 ∧ ws.set (j + i) ((sb64 uN (G % 4294967296) b % 4294967296 : Nat) : Int) = (us.set j (x0 : Int)).set (j + 1) (x1 : Int))) := by
          rcases hcase with ⟨rfl, rfl, rfl, rfl⟩ | ⟨rfl, rfl, rfl, rfl⟩ | ⟨rfl, _⟩
          · refine ⟨v0, u0, d0, _, ?_, g0, hd0, hv0B, hu0B, rfl, hs0.hg, .inl ⟨rfl, hs0.hc.symm, hs0.hb.symm, by rw [← hs0.hx]; rfl⟩⟩
            rw [hvd, hi, hcnV, hv0]
            rfl
          · refine ⟨v1, u1, d1, _, ?_, by rw [List.getElem?_set, if_neg (by omega)]; exact g1, hd1, hv1B, hu1B, rfl, hs1.hg, .inr ⟨rfl, hs1.hc.symm, hs1.hb.symm, by rw [← hs1.hx]⟩⟩
            rw [hvd, hi, hcnV, hv1]
            rfl
          · omega
        obtain ⟨pv, hpv⟩ : ∃ pv, pv = pq * vN := ⟨_, rfl⟩
        rw [← hpv] at hG
        have em : bin .mul .u64 PP (cnv .u64 vd) = (pv : Int) := by
          rw [hpp, hvN, cnv_u64 hA (by omega), mul_u64 hA ⟨by rw [← Int.natCast_mul]; exact Int.natCast_nonneg _, by rw [← Int.natCast_mul]; omega⟩, ← Int.natCast_mul, hpv]
        have ec : bin .add .u64 ci (bin .mul .u64 PP (cnv .u64 vd)) = (G : Int) := by
          rw [em, hci, add_u64 hA (by omega)]
          omega
        conv => cbv
        have eji : bin .add .i64 jj ii = ((j + i : Nat) : Int) := by rw [hjj, hi, add_i64 hA (by omega)]; omega
        refine ⟨by rw [eji]; omega, by rw [eji, oN1]; omega, rfl, ?_⟩
        refine ld_row hA 1 (r := ⟨some au, N1, N1, 68, 1, wz⟩) rfl rfl rfl (v := .int .u32 wi) (by show wz[_]? = _; rw [eji, hwz, ints, List.getElem?_map, Int.toNat_natCast, hgi]; rfl) ?_
        obtain ⟨D, hD⟩ : ∃ D, D = sb64 uN (G % 4294967296) b := ⟨_, rfl⟩
        rw [← hD] at hnx
        have hDB : D < 18446744073709551616 := by rw [hD]; exact Nat.mod_lt _ (by decide)
        have ed : bin .sub .u64 (bin .sub .u64 (cnv .u64 wi) (cnv .u64 (cnv .u32 (bin .add .u64 ci (bin .mul .u64 PP (cnv .u64 vd)))))) bi = (D : Int) := by
          rw [ec, cu32 (cnv_is hA), cnv_u64 hA (x := ((G % 4294967296 : Nat) : Int)) (by omega), hwi, cnv_u64 hA (by omega), hbi, subw hA (by omega) (by omega) hb1', hD]
        have e32 : cnv .u32 (bin .sub .u64 (bin .sub .u64 (cnv .u64 wi) (cnv .u64 (cnv .u32 (bin .add .u64 ci (bin .mul .u64 PP (cnv .u64 vd)))))) bi) = ((D % 4294967296 : Nat) : Int) := by
          rw [ed]
          exact cu32 (cnv_is hA) D
        conv => cbv
        refine ⟨by decide, ?_⟩
        refine ⟨by rw [eji]; omega, by rw [eji, oN1]; omega, rfl, ?_⟩
        refine ⟨1, _, au, j + i, rfl, rfl, by rw [elem_is hA, eji]; show au.add (((j + i : Nat) : Int).toNat * 1) = _; rw [Nat.mul_one, Int.toNat_natCast], by show j + i + 1 ≤ wz.length; rw [hwz, ints_len, hwl]; omega, ?_⟩
        intro w2 hw2
        have hw2' : w2 = ints .u32 (ws.set (j + i) ((D % 4294967296 : Nat) : Int)) := by
          rw [hw2]
          show List.take (j + i) wz ++ [Value.int .u32 _] ++ List.drop (j + i + 1) wz = _
          rw [hwz, e32]
          exact ints_set _ _ _ _ (by omega)
        conv => cbv
        refine ⟨by decide, ?_⟩
        refine ⟨2 - (i + 1), ⟨bin .add .i64 ii 1, bin .shr .u64 (bin .add .u64 ci (bin .mul .u64 PP (cnv .u64 vd))) 32, bin .shr .u64 (bin .sub .u64 (bin .sub .u64 (cnv .u64 wi) (cnv .u64 (cnv .u32 (bin .add .u64 ci (bin .mul .u64 PP (cnv .u64 vd)))))) bi) 63, w2⟩, by omega, ⟨⟨rfl, rfl, rfl, rfl, rfl, rfl, rfl, rfl, rfl, rfl, trivial⟩, rfl, trivial, rfl, .refl _⟩, i + 1, G / 4294967296, D / 9223372036854775808, _, ?_, by omega, rfl, ?_, ?_, hw2', by omega, .inr hnx⟩
        · show bin .add .i64 ii 1 = _
          rw [hi, add_i64 hA (by omega)]
          rfl
        · show bin .shr .u64 (bin .add .u64 ci (bin .mul .u64 PP (cnv .u64 vd))) 32 = _
          rw [ec, shr_u64 hA (by decide)]
          show (G : Int) / 2 ^ 32 = ((G / 4294967296 : Nat) : Int)
          omega
        · show bin .shr .u64 (bin .sub .u64 (bin .sub .u64 (cnv .u64 wi) (cnv .u64 (cnv .u32 (bin .add .u64 ci (bin .mul .u64 PP (cnv .u64 vd)))))) bi) 63 = _
          rw [ed, shr_u64 hA (by decide)]
          show (D : Int) / 2 ^ 63 = ((D / 9223372036854775808 : Nat) : Int)
          omega
      · obtain ⟨hi2', hcN, hbN, hws⟩ : i = 2 ∧ c = c1 ∧ b = b1 ∧ ws = (us.set j (x0 : Int)).set (j + 1) (x1 : Int) := by
          rcases hcase with h | h | h
          · omega
          · omega
          · exact h
        refine br_f (by rw [onv, cmp_lss hA]; simp; omega) ?_
        conv => cbv
        have hg2 : ws[j + 2]? = some d2 := by rw [hws, List.getElem?_set, if_neg (by omega), List.getElem?_set, if_neg (by omega)]; exact g2
        refine ⟨by rw [ej2]; omega, by rw [ej2, oN1]; omega, rfl, ?_⟩
        refine ld_row hA 1 (r := ⟨some au, N1, N1, 68, 1, wz⟩) rfl rfl rfl (v := .int .u32 d2) (by show wz[_]? = _; rw [ej2, hwz, ints, List.getElem?_map, Int.toNat_natCast, hg2]; rfl) ?_
        have ed2 : bin .sub .u64 (bin .sub .u64 (cnv .u64 d2) ci) bi = 0 := by
          rw [hd2, cnv_u64 hA (by omega), hci, hbi, subw hA (by omega) (by omega) hb1', hcN, hbN, hks]
          rfl
        conv => cbv
        have e32 : cnv .u32 (bin .sub .u64 (bin .sub .u64 (cnv .u64 d2) ci) bi) = 0 := by rw [ed2]; exact cnv_u32 hA (by decide)
        refine ⟨by rw [ej2]; omega, by rw [ej2, oN1]; omega, rfl, ?_⟩
        refine ⟨1, _, au, j + 2, rfl, rfl, by rw [elem_is hA, ej2]; show au.add (((j + 2 : Nat) : Int).toNat * 1) = _; rw [Nat.mul_one, Int.toNat_natCast], by show j + 2 + 1 ≤ wz.length; rw [hwz, ints_len, hwl]; omega, ?_⟩
        intro u3 hu3
        have hu3' : u3 = ints .u32 (ws.set (j + 2) 0) := by
          rw [hu3]
          show List.take (j + 2) wz ++ [Value.int .u32 _] ++ List.drop (j + 2 + 1) wz = _
          rw [hwz, e32]
          exact ints_set _ _ _ _ (by omega)
        have hx0B := hs0.hxl
        have hx1B := hs1.hxl
        have hud3 : Dg (ws.set (j + 2) 0) := by
          rw [hws]
          exact dg_set (dg_set (dg_set hud _ ⟨by omega, by omega⟩) _ ⟨by omega, by omega⟩) _ (by decide)
        have hul3 : (ws.set (j + 2) 0).length = N1 := by rw [List.length_set, hwl]
        have hwin := nv_win hud j (by omega) g0 g1 g2 x0 x1
        rw [← hws, hd0, hd1, hd2, Int.toNat_natCast, Int.toNat_natCast, Int.toNat_natCast, show u0 + u1 * 4294967296 + u2 * 18446744073709551616 = W by omega, hxx] at hwin
        have hnext := kn_next hW (show 0 < V by omega) (Nat.pow_pos (show 0 < 4294967296 by decide)) hwin
        rw [← hpqe] at hnext
        obtain ⟨us3, hus3⟩ : ∃ us3, us3 = ws.set (j + 2) 0 := ⟨_, rfl⟩
        rw [← hus3] at hu3' hud3 hul3 hnext
        conv => cbv
        refine ⟨by decide, ?_⟩
        have cz : cmp .neq (bin .shr .u64 (bin .sub .u64 (bin .sub .u64 (cnv .u64 d2) ci) bi) 63) 0 = false := by
          rw [ed2, shr_u64 hA (by decide), cmp_neq hA]
          decide
        refine br_f cz ?_
        conv => cbv
        have e9 : cnv .u32 PP = (pq : Int) := by rw [hpp]; exact cnv_u32 hA (by omega)
        refine ⟨by omega, by rw [oQ]; omega, rfl, ?_⟩
        refine ⟨0, _, aq, j, rfl, rfl, by rw [elem_is hA, hjj]; show aq.add (((j : Nat) : Int).toNat * 1) = _; rw [Nat.mul_one, Int.toNat_natCast], by show j + 1 ≤ qz.length; rw [hqz, ints_len, hql]; omega, ?_⟩
        intro q2 hq2
        have hq2' : q2 = ints .u32 (qs.set j (pq : Int)) := by
          rw [hq2]
          show List.take j qz ++ [Value.int .u32 _] ++ List.drop (j + 1) qz = _
          rw [hqz, e9]
          exact ints_set _ _ _ _ (by omega)
        conv => cbv
        refine ⟨j, ⟨bin .sub .i64 jj 1, u3, q2⟩, by omega, ⟨⟨rfl, rfl, rfl, rfl, rfl, rfl, trivial⟩, rfl, trivial, rfl, .refl _⟩, j, us3, _, by show bin .sub .i64 jj 1 = _; rw [hjj]; exact sub_i64 hA (by omega), by omega, rfl, hu3', hul3, hud3, hq2', by simp [hql], dg_set hqd j ⟨by omega, by omega⟩, ?_, hnext.2, fun i hi => by rw [List.getElem?_set, if_neg (by omega)]; exact hq0 i (by omega)⟩
        have g7 := nv_set j 0 (pq : Int) (hq0 j (by omega)) (by decide) (by omega)
        rw [Int.zero_add, Int.toNat_natCast] at g7
        rw [g7, Nat.add_mul, ← hinv, Nat.mul_right_comm pq]
        have := hnext.1
        omega
  · refine ⟨by rw [el]; omega, by rw [el]; omega, by rw [el]; omega, by rw [el]; omega, ?_⟩
    intro au nz cz z hnz hcz hz
    rw [el] at hnz hcz
    obtain rfl : N1 = nz := by omega
    obtain rfl : N1 = cz := by omega
    rw [zeros] at hz
    conv => cbv
    refine (lshG hP R b k e Y s sv hsv h2 (by omega) (by omega) (by omega)).callP rfl ?_
    rintro R1 _ hR1 ⟨av, nv_, cv, rfl, hv, hcv⟩
    conv => cbv
    refine ⟨⟨trivial, .refl _⟩, ?_⟩
    conv => cbv
    obtain ⟨V, hV⟩ : ∃ V, V = Y * 2 ^ s := ⟨_, rfl⟩
    rw [← hV] at hv hVlo hVhi
    obtain ⟨U, hU⟩ : ∃ U, U = X * 2 ^ s := ⟨_, rfl⟩
    have hcnV := cn_two (show 4294967296 ≤ V by omega) hVhi
    have hnv2 : nv_ = 2 := by rw [hv.len, hcnV]; rfl
    have hst := kn_start hXn hs31 hVlo (show 1 ≤ n by omega)
    rw [← hU] at hst
    refine (lshG hP R1 a n c X s sv hsv (h.le hR1) (by omega) (by omega) (by omega)).callP rfl ?_
    rintro R2 _ hR2 ⟨ax, nx2, cx2, rfl, hx2, hcx2⟩
    rw [← hU] at hx2
    have hnx2 : nx2 ≤ n + 1 := by rw [hx2.len]; exact cn_le hst.2
    conv => cbv
    refine ⟨nx2, _, hx2.src, .inr ⟨0, _, _, 0, _, rfl, rfl, rfl, rfl, by show 0 + min nx2 N1 * 1 ≤ z.length; rw [hz, ints_len, List.length_replicate]; omega, ?_⟩⟩
    intro n2 uz hn2' huz
    obtain rfl : nx2 = n2 := by omega
    have huz' : uz = ints .u32 (cn U ++ List.replicate (N1 - nx2) 0) := by
      rw [huz]
      show List.take 0 z ++ List.take (nx2 * 1) (ints .u32 (cn U)) ++ List.drop (0 + nx2 * 1) z = _
      have e1 : List.take nx2 (ints .u32 (cn U)) = ints .u32 (cn U) := List.take_of_length_le (by rw [ints_len, ← hx2.len]; exact Nat.le_refl _)
      rw [hz, Nat.mul_one, Nat.zero_add, e1]
      simp [ints]
    obtain ⟨us0, hus0⟩ : ∃ us0, us0 = cn U ++ List.replicate (N1 - nx2) 0 := ⟨_, rfl⟩
    rw [← hus0] at huz'
    have hul0 : us0.length = N1 := by rw [hus0, List.length_append, ← hx2.len, List.length_replicate]; omega
    have hud0 : Dg us0 := fun x hx => by
      rw [hus0] at hx
      rcases List.mem_append.1 hx with hx | hx
      · exact cn_dg _ x hx
      · exact dg_zero _ x hx
    have hun0 : nv us0 = U := by rw [hus0, nv_app, nv_zero, nv_cn]; simp
    clear huz hz
    conv => cbv
    have onv := ofN_ hA nv_
    have hv2 := hv.le hR2
    have eqn : bin .add .i64 (bin .sub .i64 (ofN n) (ofN nv_)) 1 = ((n - 1 : Nat) : Int) := by
      have e1 : bin .sub .i64 (ofN n) (ofN nv_) = ((n - 2 : Nat) : Int) := by rw [o, onv, sub_i64 hA (by omega)]; omega
      rw [e1, add_i64 hA (by omega)]
      omega
    refine ⟨by rw [eqn]; omega, by rw [eqn]; omega, by rw [eqn]; omega, by rw [eqn]; omega, ?_⟩
    intro aq nq cq zq hnq hcq hzq
    rw [eqn] at hnq hcq
    obtain ⟨Qn, hQn⟩ : ∃ Qn, Qn = n - 1 := ⟨_, rfl⟩
    obtain rfl : Qn = nq := by omega
    obtain rfl : Qn = cq := by omega
    rw [zeros] at hzq
    have oQ := ofN_ hA Qn
    conv => cbv
    have ejj0 : bin .sub .i64 (ofN n) (ofN nv_) = (Qn : Int) - 1 := by rw [o, onv, sub_i64 hA (by omega)]; omega
    refine ⟨Ldo, fun x => ⟨[(12, .v (.int .i64 x.j)), (4, .v (.slice (some aq) Qn Qn)), (9, .v (.slice av nv_ cv)), (10, .v (.slice (some au) N1 N1)), (11, .v (.int .i64 (ofN nv_))), (8, .v (.int .u64 sv))], R2, [], 0, [⟨some aq, Qn, Qn, 68, 1, x.qs⟩, ⟨some au, N1, N1, 68, 1, x.us⟩]⟩,
      fun m x => ∃ (t : Nat) (us qs : List Int), x.j = (t : Int) - 1 ∧ t ≤ Qn ∧ m = t ∧ x.us = ints .u32 us ∧ us.length = N1 ∧ Dg us ∧ x.qs = ints .u32 qs ∧ qs.length = Qn ∧ Dg qs ∧ nv us + nv qs * V = U ∧ nv us < V * 4294967296 ^ t ∧ ∀ i, i < t → qs[i]? = some 0,
      ⟨Qn, ⟨bin .sub .i64 (ofN n) (ofN nv_), uz, zq⟩, ⟨⟨rfl, rfl, rfl, rfl, rfl, rfl, trivial⟩, rfl, trivial, rfl, .refl _⟩, Qn, us0, _, ejj0, Nat.le_refl _, rfl, huz', hul0, hud0, hzq, by simp, dg_zero _, by rw [nv_zero, hun0]; simp, by rw [hun0, hQn]; exact hst.1, fun i hi => by rw [List.getElem?_replicate, if_pos hi]⟩, ?_⟩
    rintro m ⟨jj, uz1, qz⟩ ⟨t, us, qs, hj, htQ, hm, huz1, hul, hud, hqz, hql, hqd, hinv, hlt2, hq0⟩
    simp only at hj huz1 hqz
    conv => cbv
    by_cases ht : 0 < t
    case neg =>
      obtain rfl : t = 0 := by omega
      refine br_f (by rw [cmp_geq hA]; simp; omega) ?_
      conv => cbv
      rw [Nat.pow_zero, Nat.mul_one] at hlt2
      have hVp : 0 < V := by omega
      have hqv : nv qs = X / Y := by
        have e1 : U / V = nv qs := by rw [← hinv, Nat.add_mul_div_right _ _ hVp, Nat.div_eq_of_lt hlt2, Nat.zero_add]
        rw [← e1, hU, hV, Nat.mul_div_mul_right _ _ (Nat.pow_pos (by decide))]
      have hrv : nv us / 2 ^ s = X % Y := by
        have e1 : U % V = nv us := by rw [← hinv, Nat.add_mul_mod_self_right, Nat.mod_eq_of_lt hlt2]
        rw [← e1, hU, hV, Nat.mul_mod_mul_right, Nat.mul_div_cancel _ (Nat.pow_pos (by decide))]
      refine CallP.pub 0 rfl (fun R3 hR3 hp3 => ?_) ⟨_, by rw [hP]; exact Tryd.func36, by decide, rfl⟩
      have hr3 : RI R3 .u32 (some aq) Qn qs := hp3.ri hql.symm (fun _ => rfl) rfl hqz hqd.wf
      refine (normP hP R3 (some aq) Qn Qn qs hr3 (Nat.le_refl _) (by omega)).callP rfl ?_
      rintro R4 _ hR4 ⟨a4, n4, c4, rfl, hr4, hc4⟩
      rw [hqv] at hr4
      conv => cbv
      refine CallP.pub 0 rfl (fun R5 hR5 hp5 => ?_) ⟨_, by rw [hP]; exact Tryd.func36, by decide, rfl⟩
      have hr5 : RI R5 .u32 (some au) N1 us := hp5.ri hul.symm (fun _ => rfl) rfl huz1 hud.wf
      refine (normP hP R5 (some au) N1 N1 us hr5 (Nat.le_refl _) (by omega)).callP rfl ?_
      rintro R6 _ hR6 ⟨a6, n6, c6, rfl, hr6, hc6⟩
      conv => cbv
      have hn6 : n6 ≤ 10000 := by
        rw [hr6.len]
        refine Nat.le_trans (cn_le (k := N1) ?_) (by omega)
        rw [← hul]
        exact nv_lt hud
      refine (rshP hP R6 a6 n6 c6 (nv us) s sv hsv hr6 hc6 hn6 (by omega)).callP rfl ?_
      rintro R7 _ hR7 ⟨a7, n7, c7, rfl, hr7, hc7⟩
      rw [hrv] at hr7
      conv => cbv
      intro ρ R'' hle _ _
      exact ⟨a4, n4, c4, a7, n7, c7, rfl, hr4.le (RO.le_trans hR5 (RO.le_trans hR6 (RO.le_trans hR7 hle))), hc4, hr7.le hle, hc7⟩
    refine br_t (by rw [cmp_geq hA]; simp; omega) ?_
    conv => cbv
    obtain ⟨j, hj1⟩ : ∃ j, j = t - 1 := ⟨_, rfl⟩
    have hjj : jj = (j : Int) := by omega
    obtain rfl : t = j + 1 := by omega
    refine ⟨[0, 1, 2, 3, 4, 5, 6, 7, 8, 9, 10, 11, 12, 13, 14, 15, 16, 17], [], mix2 hP, by decide +kernel, ?_⟩
    conv => cbv
    have ej2 : bin .add .i64 jj (ofN nv_) = ((j + 2 : Nat) : Int) := by rw [hjj, onv, add_i64 hA (by omega)]; omega
    have ej1 : bin .sub .i64 (bin .add .i64 jj (ofN nv_)) 1 = ((j + 1 : Nat) : Int) := by rw [ej2, sub_i64 hA (by omega)]; omega
    have ej0 : bin .sub .i64 (bin .add .i64 jj (ofN nv_)) 2 = ((j : Nat) : Int) := by rw [ej2, sub_i64 hA (by omega)]; omega
    have en1 : bin .sub .i64 (ofN nv_) 1 = ((1 : Nat) : Int) := by rw [onv, sub_i64 hA (by omega)]; omega
    have en0 : bin .sub .i64 (ofN nv_) 2 = ((0 : Nat) : Int) := by rw [onv, sub_i64 hA (by omega)]; omega
    obtain ⟨d0, u0, g0, hd0, hu0B⟩ := ex_get hud (show j < us.length by omega)
    obtain ⟨d1, u1, g1, hd1, hu1B⟩ := ex_get hud (show j + 1 < us.length by omega)
    obtain ⟨d2, u2, g2, hd2, hu2B⟩ := ex_get hud (show j + 2 < us.length by omega)
    obtain ⟨W, hW⟩ : ∃ W, W = nv us / 4294967296 ^ j := ⟨_, rfl⟩
    obtain ⟨hWV, hd0W, hd1W, hd2W⟩ := nv_get3 hud j (by omega) g0 g1 g2 hVhi hlt2 hW
    obtain ⟨v0, hv0⟩ : ∃ v0, v0 = V % 4294967296 := ⟨_, rfl⟩
    obtain ⟨v1, hv1⟩ : ∃ v1, v1 = V / 4294967296 := ⟨_, rfl⟩
    have hv0B : v0 < 4294967296 := by omega
    have hv1B : v1 < 4294967296 := by omega
    have hVV : V = v1 * 4294967296 + v0 := by omega
    have hv1h : 4294967296 ≤ 2 * v1 := by omega
    obtain ⟨AA, hAA⟩ : ∃ AA, AA = W / 4294967296 := ⟨_, rfl⟩
    have hWW : W = AA * 4294967296 + u0 := by omega
    refine ⟨by rw [ej2]; omega, by rw [ej2, oN1]; omega, rfl, ?_⟩
    refine ld_row hA 1 (r := ⟨some au, N1, N1, 68, 1, uz1⟩) rfl rfl rfl (v := .int .u32 d2) (by show uz1[_]? = _; rw [ej2, huz1, ints, List.getElem?_map, Int.toNat_natCast, g2]; rfl) ?_
    conv => cbv
    refine ⟨by decide, ?_⟩
    refine ⟨by rw [ej1]; omega, by rw [ej1, oN1]; omega, rfl, ?_⟩
    refine ld_row hA 1 (r := ⟨some au, N1, N1, 68, 1, uz1⟩) rfl rfl rfl (v := .int .u32 d1) (by show uz1[_]? = _; rw [ej1, huz1, ints, List.getElem?_map, Int.toNat_natCast, g1]; rfl) ?_
    have eA : bin .or .u64 (bin .shl .u64 (cnv .u64 d2) 32) (cnv .u64 d1) = (AA : Int) := by
      rw [hd2, hd1, cnv_u64 hA (by omega), cnv_u64 hA (by omega), or_low hA hu2B hu1B]
      omega
    obtain ⟨av_, hav⟩ : ∃ av_, av_ = bin .or .u64 (bin .shl .u64 (cnv .u64 d2) 32) (cnv .u64 d1) := ⟨_, rfl⟩
    rw [← hav] at eA
    conv => cbv
    simp (maxSteps := 10000000) only [← hav]
    refine ⟨[0, 1, 2, 3, 4, 5, 6, 7, 8, 9, 10, 11, 12, 13, 14, 15, 16, 17], [], mix2 hP, by decide +kernel, ?_⟩
    conv => cbv
    refine ix_ri hv2 onv 1 en1 (by omega) ?_
    refine ld_ri hA hv2 (by omega) (by omega) ?_
    intro y1 hy1 _
    have hy1v : y1 = (v1 : Int) := by rw [hy1, en1, hcnV, hv1]; rfl
    conv => cbv
    have ey1 : cnv .u64 y1 = (v1 : Int) := by rw [hy1v, cnv_u64 hA (by omega)]
    refine ⟨by rw [ey1]; omega, ?_⟩
    refine ix_ri hv2 onv 1 en1 (by omega) ?_
    refine ld_ri hA hv2 (by omega) (by omega) ?_
    intro y2 hy2 _
    obtain rfl : y1 = y2 := by rw [hy1, hy2]
    conv => cbv
    refine ⟨by rw [ey1]; omega, ?_⟩
    have ep0 : bin .quo .u64 av_ (cnv .u64 y1) = ((AA / v1 : Nat) : Int) := by
      rw [ey1, eA, quo_u64 hA (by omega) (by omega) (by omega)]
      exact (Int.natCast_ediv _ _).symm
    have et0 : bin .rem .u64 av_ (cnv .u64 y1) = ((AA % v1 : Nat) : Int) := by
      rw [ey1, eA, rem_u64 hA (by omega)]
      exact (Int.natCast_emod _ _).symm
    have hin := kn_init hVV hWW (by omega) hv0B hv1h hWV
    have htm : AA % v1 < v1 := Nat.mod_lt _ (by omega)
    conv => cbv
    apply share (I := fun s => ∃ PP : Int, PP = ((W / V : Nat) : Int) ∧ W / V < 4294967296 ∧ Wk s.nx s ⟨[(18, .v (.int .i64 0)), (16, .v (.int .u64 0)), (17, .v (.int .u64 0)), (14, .v (.int .u64 PP)), (12, .v (.int .i64 jj)), (4, .v (.slice (some aq) Qn Qn)), (9, .v (.slice av nv_ cv)), (10, .v (.slice (some au) N1 N1)), (11, .v (.int .i64 (ofN nv_))), (8, .v (.int .u64 sv))], R2, [], 0, [⟨some aq, Qn, Qn, 68, 1, qz⟩, ⟨some au, N1, N1, 68, 1, uz1⟩]⟩)
    intro rest
    refine ⟨Lpt, fun x => ⟨[(14, .v (.int .u64 x.p)), (15, .v (.int .u64 x.t)), (12, .v (.int .i64 jj)), (4, .v (.slice (some aq) Qn Qn)), (9, .v (.slice av nv_ cv)), (10, .v (.slice (some au) N1 N1)), (11, .v (.int .i64 (ofN nv_))), (8, .v (.int .u64 sv))], R2, [], 0, [⟨some aq, Qn, Qn, 68, 1, qz⟩, ⟨some au, N1, N1, 68, 1, uz1⟩]⟩,
      fun m x => ∃ p t : Nat, x.p = p ∧ x.t = t ∧ m = p ∧ p * v1 + t = AA ∧ W / V ≤ p ∧ p ≤ 4294967297 ∧ t < 4294967296,
      ⟨AA / v1, ⟨bin .quo .u64 av_ (cnv .u64 y1), bin .rem .u64 av_ (cnv .u64 y1)⟩, ⟨⟨rfl, rfl, rfl, rfl, rfl, rfl, rfl, rfl, trivial⟩, rfl, trivial, rfl, .refl _⟩, _, _, ep0, et0, rfl, Nat.div_add_mod' _ _, hin.2, hin.1, by omega⟩, ?_⟩
    rintro m2 ⟨pi, ti⟩ ⟨p, t, hp, ht2, hm2, hpt, hpW, hpB, htB⟩
    simp only at hp ht2
    conv => cbv
    refine ⟨[0, 1, 2, 3, 4, 5, 6, 7, 8, 9, 10, 11, 12, 13, 14, 15, 16, 17, 18, 19, 20, 21, 22, 23, 24], [], mix2 hP, by decide +kernel, ?_⟩
    conv => cbv
    refine ⟨by decide, ?_⟩
    by_cases hbig : 4294967296 ≤ p
    · have cb : cmp .neq (bin .shr .u64 pi 32) 0 = true := by
        rw [hp, shr_u64 hA (by decide), cmp_neq hA]
        show ((p : Int) / 2 ^ 32 != 0) = true
        simp
        omega
      simp (maxSteps := 10000000) only [cb]
      conv => cbv
      have hdec := kn_dec hVV hWW (by omega) hv0B hv1h hWV hpt (.inl hbig)
      have hp1 : 1 ≤ p := Nat.lt_of_le_of_lt (Nat.zero_le _) hdec
      have hpW2 : W / V ≤ p - 1 := Nat.le_sub_one_of_lt hdec
      have e1 : bin .sub .u64 pi 1 = ((p - 1 : Nat) : Int) := by rw [hp, sub_u64 hA (by omega)]; omega
      refine ix_ri hv2 onv 1 en1 (by omega) ?_
      refine ld_ri hA hv2 (by omega) (by omega) ?_
      intro y3 hy3 _
      have hy3v : y3 = (v1 : Int) := by rw [hy3, en1, hcnV, hv1]; rfl
      have e2 : bin .add .u64 ti (cnv .u64 y3) = ((t + v1 : Nat) : Int) := by rw [ht2, hy3v, cnv_u64 hA (by omega), add_u64 hA (by omega)]; omega
      have hpt2 : (p - 1) * v1 + (t + v1) = AA := by
        obtain ⟨p1, rfl⟩ : ∃ p1, p = p1 + 1 := ⟨p - 1, by omega⟩
        rw [Nat.add_mul, Nat.one_mul] at hpt
        rw [Nat.add_sub_cancel]
        omega
      conv => cbv
      refine ⟨by decide, ?_⟩
      by_cases hbk : 4294967296 ≤ t + v1
      · have cb2 : cmp .neq (bin .shr .u64 (bin .add .u64 ti (cnv .u64 y3)) 32) 0 = true := by
          rw [e2, shr_u64 hA (by decide), cmp_neq hA]
          show (((t + v1 : Nat) : Int) / 2 ^ 32 != 0) = true
          simp
          omega
        refine br_t cb2 ?_
        conv => cbv
        have hpq := kn_end hVV hWW (by omega) hv0B hv1h hpt2 (kn_brk (by omega) hv0B hbk) hpW2
        have hpp : bin .sub .u64 pi 1 = ((W / V : Nat) : Int) := by rw [e1, hpq]
        have hpqB : W / V < 4294967296 := by
          rw [Nat.div_lt_iff_lt_mul (by omega), Nat.mul_comm]
          exact hWV
        refine rest _ ⟨(bin .sub .u64 pi 1), hpp, hpqB, ⟨⟨rfl, rfl, rfl, rfl, rfl, rfl, rfl, rfl, rfl, rfl, trivial⟩, rfl, trivial, rfl, .refl _⟩⟩
      · have cb2 : cmp .neq (bin .shr .u64 (bin .add .u64 ti (cnv .u64 y3)) 32) 0 = false := by
          rw [e2, shr_u64 hA (by decide), cmp_neq hA]
          show (((t + v1 : Nat) : Int) / 2 ^ 32 != 0) = false
          simp
          omega
        refine br_f cb2 ?_
        conv => cbv
        exact ⟨p - 1, ⟨bin .sub .u64 pi 1, bin .add .u64 ti (cnv .u64 y3)⟩, by omega, ⟨⟨rfl, rfl, rfl, rfl, rfl, rfl, rfl, rfl, trivial⟩, rfl, trivial, rfl, .refl _⟩, p - 1, t + v1, e1, e2, rfl, hpt2, hpW2, by omega, by omega⟩
    · have cb : cmp .neq (bin .shr .u64 pi 32) 0 = false := by
        rw [hp, shr_u64 hA (by decide), cmp_neq hA]
        show ((p : Int) / 2 ^ 32 != 0) = false
        simp
        omega
      simp (maxSteps := 10000000) only [cb]
      conv => cbv
      refine ix_ri hv2 onv 0 en0 (by omega) ?_
      refine ld_ri hA hv2 (by omega) (by omega) ?_
      intro w0 hw0 _
      have hw0v : w0 = (v0 : Int) := by rw [hw0, en0, hcnV, hv0]; rfl
      conv => cbv
      refine ⟨by decide, ?_⟩
      refine ⟨by rw [ej0]; omega, by rw [ej0, oN1]; omega, rfl, ?_⟩
      refine ld_row hA 1 (r := ⟨some au, N1, N1, 68, 1, uz1⟩) rfl rfl rfl (v := .int .u32 d0) (by show uz1[_]? = _; rw [ej0, huz1, ints, List.getElem?_map, Int.toNat_natCast, g0]; rfl) ?_
      have hpv0 := Nat.mul_le_mul (show p ≤ 4294967295 by omega) (show v0 ≤ 4294967295 by omega)
      have em0 : bin .mul .u64 pi (cnv .u64 w0) = ((p * v0 : Nat) : Int) := by
        rw [hp, hw0v, cnv_u64 hA (by omega), mul_u64 hA ⟨by rw [← Int.natCast_mul]; exact Int.natCast_nonneg _, by rw [← Int.natCast_mul]; omega⟩, Int.natCast_mul]
      have eo0 : bin .or .u64 (bin .shl .u64 ti 32) (cnv .u64 d0) = ((t * 4294967296 + u0 : Nat) : Int) := by
        rw [ht2, hd0, cnv_u64 hA (by omega), or_low hA htB hu0B]
      have cg : cmp .gtr (bin .mul .u64 pi (cnv .u64 w0)) (bin .or .u64 (bin .shl .u64 ti 32) (cnv .u64 d0)) = decide (t * 4294967296 + u0 < p * v0) := by
        rw [em0, eo0, cmp_gtr hA]
        generalize p * v0 = PV
        simp only [gt_iff_lt, Int.ofNat_lt]
      by_cases hgt : t * 4294967296 + u0 < p * v0
      · rw [decide_eq_true hgt] at cg
        conv => cbv
        simp (maxSteps := 10000000) only [cg]
        conv => cbv
        have hdec := kn_dec hVV hWW (by omega) hv0B hv1h hWV hpt (.inr hgt)
        have hp1 : 1 ≤ p := Nat.lt_of_le_of_lt (Nat.zero_le _) hdec
        have hpW2 : W / V ≤ p - 1 := Nat.le_sub_one_of_lt hdec
        have e1 : bin .sub .u64 pi 1 = ((p - 1 : Nat) : Int) := by rw [hp, sub_u64 hA (by omega)]; omega
        refine ix_ri hv2 onv 1 en1 (by omega) ?_
        refine ld_ri hA hv2 (by omega) (by omega) ?_
        intro y3 hy3 _
        have hy3v : y3 = (v1 : Int) := by rw [hy3, en1, hcnV, hv1]; rfl
        have e2 : bin .add .u64 ti (cnv .u64 y3) = ((t + v1 : Nat) : Int) := by rw [ht2, hy3v, cnv_u64 hA (by omega), add_u64 hA (by omega)]; omega
        have hpt2 : (p - 1) * v1 + (t + v1) = AA := by
          obtain ⟨p1, rfl⟩ : ∃ p1, p = p1 + 1 := ⟨p - 1, by omega⟩
          rw [Nat.add_mul, Nat.one_mul] at hpt
          rw [Nat.add_sub_cancel]
          omega
        conv => cbv
        refine ⟨by decide, ?_⟩
        by_cases hbk : 4294967296 ≤ t + v1
        · have cb2 : cmp .neq (bin .shr .u64 (bin .add .u64 ti (cnv .u64 y3)) 32) 0 = true := by
            rw [e2, shr_u64 hA (by decide), cmp_neq hA]
            show (((t + v1 : Nat) : Int) / 2 ^ 32 != 0) = true
            simp
            omega
          refine br_t cb2 ?_
          conv => cbv
          have hpq := kn_end hVV hWW (by omega) hv0B hv1h hpt2 (kn_brk (by omega) hv0B hbk) hpW2
          have hpp : bin .sub .u64 pi 1 = ((W / V : Nat) : Int) := by rw [e1, hpq]
          have hpqB : W / V < 4294967296 := by
            rw [Nat.div_lt_iff_lt_mul (by omega), Nat.mul_comm]
            exact hWV
          refine rest _ ⟨(bin .sub .u64 pi 1), hpp, hpqB, ⟨⟨rfl, rfl, rfl, rfl, rfl, rfl, rfl, rfl, rfl, rfl, trivial⟩, rfl, trivial, rfl, .refl _⟩⟩
        · have cb2 : cmp .neq (bin .shr .u64 (bin .add .u64 ti (cnv .u64 y3)) 32) 0 = false := by
            rw [e2, shr_u64 hA (by decide), cmp_neq hA]
            show (((t + v1 : Nat) : Int) / 2 ^ 32 != 0) = false
            simp
            omega
          refine br_f cb2 ?_
          conv => cbv
          exact ⟨p - 1, ⟨bin .sub .u64 pi 1, bin .add .u64 ti (cnv .u64 y3)⟩, by omega, ⟨⟨rfl, rfl, rfl, rfl, rfl, rfl, rfl, rfl, trivial⟩, rfl, trivial, rfl, .refl _⟩, p - 1, t + v1, e1, e2, rfl, hpt2, hpW2, by omega, by omega⟩
      · rw [decide_eq_false hgt] at cg
        conv => cbv
        simp (maxSteps := 10000000) only [cg]
        conv => cbv
        have hpq := kn_end hVV hWW (by omega) hv0B hv1h hpt (by omega) hpW
        have hpp : pi = ((W / V : Nat) : Int) := by rw [hp, hpq]
        have hpqB : W / V < 4294967296 := by omega
        refine rest _ ⟨pi, hpp, hpqB, ⟨⟨rfl, rfl, rfl, rfl, rfl, rfl, rfl, rfl, rfl, rfl, trivial⟩, rfl, trivial, rfl, .refl _⟩⟩
    case h =>
      rintro s ⟨PP, hpp, hpqB, hwk⟩
      obtain ⟨pq, hpqe⟩ : ∃ pq, pq = W / V := ⟨_, rfl⟩
      rw [← hpqe] at hpp hpqB
      obtain ⟨x0, c0, b0, x1, c1, b1, hs0, hs1, hks, hxx, hc1⟩ := kn_round hu0B hu1B hu2B hv0B hv1B (show W = u0 + u1 * 4294967296 + u2 * 18446744073709551616 by omega) hVV (by omega) hpqe hpqB
      clear hin ep0 et0 htm ey1 hy1v hy1 hy2 eA hav hWW hAA
      refine ⟨Lms, fun x => ⟨[(18, .v (.int .i64 x.i)), (16, .v (.int .u64 x.c)), (17, .v (.int .u64 x.b)), (14, .v (.int .u64 PP)), (12, .v (.int .i64 jj)), (4, .v (.slice (some aq) Qn Qn)), (9, .v (.slice av nv_ cv)), (10, .v (.slice (some au) N1 N1)), (11, .v (.int .i64 (ofN nv_))), (8, .v (.int .u64 sv))], R2, [], 0, [⟨some aq, Qn, Qn, 68, 1, qz⟩, ⟨some au, N1, N1, 68, 1, x.us⟩]⟩,
        fun m' x => ∃ (i c b : Nat) (ws : List Int), x.i = i ∧ i ≤ 2 ∧ m' = 2 - i ∧ x.c = c ∧ x.b = b ∧ x.us = ints .u32 ws ∧ b ≤ 1 ∧ ((i = 0 ∧ c = 0 ∧ b = 0 ∧ ws = us) ∨ (i = 1 ∧ c = c0 ∧ b = b0 ∧ ws = us.set j (x0 : Int)) ∨ (i = 2 ∧ c = c1 ∧ b = b1 ∧ ws = (us.set j (x0 : Int)).set (j + 1) (x1 : Int))),
        ⟨2, ⟨0, 0, 0, uz1⟩, hwk, 0, 0, 0, us, rfl, by decide, rfl, rfl, rfl, huz1, by decide, .inl ⟨rfl, rfl, rfl, rfl⟩⟩, ?_⟩
      rintro m' ⟨ii, ci, bi, wz⟩ ⟨i, c, b, ws, hi, hi2, hm', hci, hbi, hwz, hb1', hcase⟩
      simp only at hi hci hbi hwz
      have hwl : ws.length = N1 := by
        rcases hcase with ⟨_, _, _, rfl⟩ | ⟨_, _, _, rfl⟩ | ⟨_, _, _, rfl⟩ <;> simp [hul]
      conv => cbv
      by_cases hilt : i < 2
      · -- a digit
        refine br_t (by rw [onv, cmp_lss hA]; simp; omega) ?_
        conv => cbv
        refine ix_ri hv2 onv i hi (by omega) ?_
        refine ld_ri hA hv2 (by omega) (by omega) ?_
        intro vd hvd _
        obtain ⟨vN, uN, wi, G, hvN, hgi, hwi, hvB, huB, hG, hGB, hnx⟩ : ∃ (vN uN : Nat) (wi : Int) (G : Nat), vd = vN ∧ ws[j + i]? = some wi ∧ wi = uN ∧ vN < 4294967296 ∧ uN < 4294967296 ∧ G = c + pq * vN ∧ G < 18446744073709551616 ∧
            ((i + 1 = 1 ∧ G / 4294967296 = c0 ∧ sb64 uN (G % 4294967296) b / 9223372036854775808 = b0 ∧ ws.set (j + i) ((sb64 uN (G % 4294967296) b % 4294967296 : Nat) : Int) = us.set j (x0 : Int)) ∨
            (i + 1 = 2 ∧ G / 4294967296 = c1 ∧ sb64 uN (G % 4294967296) b / 9223372036854775808 = b1 ∧ ws.set (j + i) ((sb64 uN (G % 4294967296) b % 4294967296 : Nat) : Int) = (us.set j (x0 : Int)).set (j + 1) (x1 : Int))) := by
          rcases hcase with ⟨rfl, rfl, rfl, rfl⟩ | ⟨rfl, rfl, rfl, rfl⟩ | ⟨rfl, _⟩
          · refine ⟨v0, u0, d0, _, ?_, g0, hd0, hv0B, hu0B, rfl, hs0.hg, .inl ⟨rfl, hs0.hc.symm, hs0.hb.symm, by rw [← hs0.hx]; rfl⟩⟩
            rw [hvd, hi, hcnV, hv0]
            rfl
          · refine ⟨v1, u1, d1, _, ?_, by rw [List.getElem?_set, if_neg (by omega)]; exact g1, hd1, hv1B, hu1B, rfl, hs1.hg, .inr ⟨rfl, hs1.hc.symm, hs1.hb.symm, by rw [← hs1.hx]⟩⟩
            rw [hvd, hi, hcnV, hv1]
            rfl
          · omega
        obtain ⟨pv, hpv⟩ : ∃ pv, pv = pq * vN := ⟨_, rfl⟩
        rw [← hpv] at hG
        have em : bin .mul .u64 PP (cnv .u64 vd) = (pv : Int) := by
          rw [hpp, hvN, cnv_u64 hA (by omega), mul_u64 hA ⟨by rw [← Int.natCast_mul]; exact Int.natCast_nonneg _, by rw [← Int.natCast_mul]; omega⟩, ← Int.natCast_mul, hpv]
        have ec : bin .add .u64 ci (bin .mul .u64 PP (cnv .u64 vd)) = (G : Int) := by
          rw [em, hci, add_u64 hA (by omega)]
          omega
        conv => cbv
        have eji : bin .add .i64 jj ii = ((j + i : Nat) : Int) := by rw [hjj, hi, add_i64 hA (by omega)]; omega
        refine ⟨by rw [eji]; omega, by rw [eji, oN1]; omega, rfl, ?_⟩
        refine ld_row hA 1 (r := ⟨some au, N1, N1, 68, 1, wz⟩) rfl rfl rfl (v := .int .u32 wi) (by show wz[_]? = _; rw [eji, hwz, ints, List.getElem?_map, Int.toNat_natCast, hgi]; rfl) ?_
        obtain ⟨D, hD⟩ : ∃ D, D = sb64 uN (G % 4294967296) b := ⟨_, rfl⟩
        rw [← hD] at hnx
        have hDB : D < 18446744073709551616 := by rw [hD]; exact Nat.mod_lt _ (by decide)
        have ed : bin .sub .u64 (bin .sub .u64 (cnv .u64 wi) (cnv .u64 (cnv .u32 (bin .add .u64 ci (bin .mul .u64 PP (cnv .u64 vd)))))) bi = (D : Int) := by
          rw [ec, cu32 (cnv_is hA), cnv_u64 hA (x := ((G % 4294967296 : Nat) : Int)) (by omega), hwi, cnv_u64 hA (by omega), hbi, subw hA (by omega) (by omega) hb1', hD]
        have e32 : cnv .u32 (bin .sub .u64 (bin .sub .u64 (cnv .u64 wi) (cnv .u64 (cnv .u32 (bin .add .u64 ci (bin .mul .u64 PP (cnv .u64 vd)))))) bi) = ((D % 4294967296 : Nat) : Int) := by
          rw [ed]
          exact cu32 (cnv_is hA) D
        conv => cbv
        refine ⟨by decide, ?_⟩
        refine ⟨by rw [eji]; omega, by rw [eji, oN1]; omega, rfl, ?_⟩
        refine ⟨1, _, au, j + i, rfl, rfl, by rw [elem_is hA, eji]; show au.add (((j + i : Nat) : Int).toNat * 1) = _; rw [Nat.mul_one, Int.toNat_natCast], by show j + i + 1 ≤ wz.length; rw [hwz, ints_len, hwl]; omega, ?_⟩
        intro w2 hw2
        have hw2' : w2 = ints .u32 (ws.set (j + i) ((D % 4294967296 : Nat) : Int)) := by
          rw [hw2]
          show List.take (j + i) wz ++ [Value.int .u32 _] ++ List.drop (j + i + 1) wz = _
          rw [hwz, e32]
          exact ints_set _ _ _ _ (by omega)
        conv => cbv
        refine ⟨by decide, ?_⟩
        refine ⟨2 - (i + 1), ⟨bin .add .i64 ii 1, bin .shr .u64 (bin .add .u64 ci (bin .mul .u64 PP (cnv .u64 vd))) 32, bin .shr .u64 (bin .sub .u64 (bin .sub .u64 (cnv .u64 wi) (cnv .u64 (cnv .u32 (bin .add .u64 ci (bin .mul .u64 PP (cnv .u64 vd)))))) bi) 63, w2⟩, by omega, ⟨⟨rfl, rfl, rfl, rfl, rfl, rfl, rfl, rfl, rfl, rfl, trivial⟩, rfl, trivial, rfl, .refl _⟩, i + 1, G / 4294967296, D / 9223372036854775808, _, ?_, by omega, rfl, ?_, ?_, hw2', by omega, .inr hnx⟩
        · show bin .add .i64 ii 1 = _
          rw [hi, add_i64 hA (by omega)]
          rfl
        · show bin .shr .u64 (bin .add .u64 ci (bin .mul .u64 PP (cnv .u64 vd))) 32 = _
          rw [ec, shr_u64 hA (by decide)]
          show (G : Int) / 2 ^ 32 = ((G / 4294967296 : Nat) : Int)
          omega
        · show bin .shr .u64 (bin .sub .u64 (bin .sub .u64 (cnv .u64 wi) (cnv .u64 (cnv .u32 (bin .add .u64 ci (bin .mul .u64 PP (cnv .u64 vd)))))) bi) 63 = _
          rw [ed, shr_u64 hA (by decide)]
          show (D : Int) / 2 ^ 63 = ((D / 9223372036854775808 : Nat) : Int)
          omega
      · obtain ⟨hi2', hcN, hbN, hws⟩ : i = 2 ∧ c = c1 ∧ b = b1 ∧ ws = (us.set j (x0 : Int)).set (j + 1) (x1 : Int) := by
          rcases hcase with h | h | h
          · omega
          · omega
          · exact h
        refine br_f (by rw [onv, cmp_lss hA]; simp; omega) ?_
        conv => cbv
        have hg2 : ws[j + 2]? = some d2 := by rw [hws, List.getElem?_set, if_neg (by omega), List.getElem?_set, if_neg (by omega)]; exact g2
        refine ⟨by rw [ej2]; omega, by rw [ej2, oN1]; omega, rfl, ?_⟩
        refine ld_row hA 1 (r := ⟨some au, N1, N1, 68, 1, wz⟩) rfl rfl rfl (v := .int .u32 d2) (by show wz[_]? = _; rw [ej2, hwz, ints, List.getElem?_map, Int.toNat_natCast, hg2]; rfl) ?_
        have ed2 : bin .sub .u64 (bin .sub .u64 (cnv .u64 d2) ci) bi = 0 := by
          rw [hd2, cnv_u64 hA (by omega), hci, hbi, subw hA (by omega) (by omega) hb1', hcN, hbN, hks]
          rfl
        conv => cbv
        have e32 : cnv .u32 (bin .sub .u64 (bin .sub .u64 (cnv .u64 d2) ci) bi) = 0 := by rw [ed2]; exact cnv_u32 hA (by decide)
        refine ⟨by rw [ej2]; omega, by rw [ej2, oN1]; omega, rfl, ?_⟩
        refine ⟨1, _, au, j + 2, rfl, rfl, by rw [elem_is hA, ej2]; show au.add (((j + 2 : Nat) : Int).toNat * 1) = _; rw [Nat.mul_one, Int.toNat_natCast], by show j + 2 + 1 ≤ wz.length; rw [hwz, ints_len, hwl]; omega, ?_⟩
        intro u3 hu3
        have hu3' : u3 = ints .u32 (ws.set (j + 2) 0) := by
          rw [hu3]
          show List.take (j + 2) wz ++ [Value.int .u32 _] ++ List.drop (j + 2 + 1) wz = _
          rw [hwz, e32]
          exact ints_set _ _ _ _ (by omega)
        have hx0B := hs0.hxl
        have hx1B := hs1.hxl
        have hud3 : Dg (ws.set (j + 2) 0) := by
          rw [hws]
          exact dg_set (dg_set (dg_set hud _ ⟨by omega, by omega⟩) _ ⟨by omega, by omega⟩) _ (by decide)
        have hul3 : (ws.set (j + 2) 0).length = N1 := by rw [List.length_set, hwl]
        have hwin := nv_win hud j (by omega) g0 g1 g2 x0 x1
        rw [← hws, hd0, hd1, hd2, Int.toNat_natCast, Int.toNat_natCast, Int.toNat_natCast, show u0 + u1 * 4294967296 + u2 * 18446744073709551616 = W by omega, hxx] at hwin
        have hnext := kn_next hW (show 0 < V by omega) (Nat.pow_pos (show 0 < 4294967296 by decide)) hwin
        rw [← hpqe] at hnext
        obtain ⟨us3, hus3⟩ : ∃ us3, us3 = ws.set (j + 2) 0 := ⟨_, rfl⟩
        rw [← hus3] at hu3' hud3 hul3 hnext
        conv => cbv
        refine ⟨by decide, ?_⟩
        have cz : cmp .neq (bin .shr .u64 (bin .sub .u64 (bin .sub .u64 (cnv .u64 d2) ci) bi) 63) 0 = false := by
          rw [ed2, shr_u64 hA (by decide), cmp_neq hA]
          decide
        refine br_f cz ?_
        conv => cbv
        have e9 : cnv .u32 PP = (pq : Int) := by rw [hpp]; exact cnv_u32 hA (by omega)
        refine ⟨by omega, by rw [oQ]; omega, rfl, ?_⟩
        refine ⟨0, _, aq, j, rfl, rfl, by rw [elem_is hA, hjj]; show aq.add (((j : Nat) : Int).toNat * 1) = _; rw [Nat.mul_one, Int.toNat_natCast], by show j + 1 ≤ qz.length; rw [hqz, ints_len, hql]; omega, ?_⟩
        intro q2 hq2
        have hq2' : q2 = ints .u32 (qs.set j (pq : Int)) := by
          rw [hq2]
          show List.take j qz ++ [Value.int .u32 _] ++ List.drop (j + 1) qz = _
          rw [hqz, e9]
          exact ints_set _ _ _ _ (by omega)
        conv => cbv
        refine ⟨j, ⟨bin .sub .i64 jj 1, u3, q2⟩, by omega, ⟨⟨rfl, rfl, rfl, rfl, rfl, rfl, trivial⟩, rfl, trivial, rfl, .refl _⟩, j, us3, _, by show bin .sub .i64 jj 1 = _; rw [hjj]; exact sub_i64 hA (by omega), by omega, rfl, hu3', hul3, hud3, hq2', by simp [hql], dg_set hqd j ⟨by omega, by omega⟩, ?_, hnext.2, fun i hi => by rw [List.getElem?_set, if_neg (by omega)]; exact hq0 i (by omega)⟩
        have g7 := nv_set j 0 (pq : Int) (hq0 j (by omega)) (by decide) (by omega)
        rw [Int.zero_add, Int.toNat_natCast] at g7
        rw [g7, Nat.add_mul, ← hinv, Nat.mul_right_comm pq]
        have := hnext.1
        omega
end Go.Proofs.YtepfbdfbfimefaaDoor.Bf
