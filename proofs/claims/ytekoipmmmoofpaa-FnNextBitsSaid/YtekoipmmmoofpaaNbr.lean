/- The bits that a header behind a chain must have, by the reference. -/
import Derived.Test.YtekoipmmmoofpaaNbl
import Derived.Test.YtekoipmmmoofpaaNbb
import Derived.Test.YtekoipmmmoofpaaNbf
import Derived.Test.YtekoipmmmoofpaaNbg
import Derived.Test.YtekoipmmmoofpaaNbp
import Derived.Test.YtekoipmmmoofpaaNbq
import Derived.Test.YtekoipmmmoofpaaVha
import Derived.Laws.Small
import Derived.Test.YtekoipmmmoofpaaSl
import Derived.Test.YtekoipmmmoofpaaProg
import Derived.KernelRfl
-- merged
/- The types that some functions name, as the evaluator wants them. Printed by a program of my own (seatgen.py). -/
namespace Go.Proofs.Ytekoipmmmoofpaa.Tynr
open Go Go.Se Go.Proofs

/-- int64 -/
def y2 : Ty := ⟨.int .i64, 1, false, .int .i64 0, 8⟩
theorem ty2 : tyOf Try.prog 2 = some y2 := by kernel_rfl
/-- int -/
def y3 : Ty := ⟨.int .i64, 1, false, .int .i64 0, 8⟩
theorem ty3 : tyOf Try.prog 3 = some y3 := by kernel_rfl
/-- bool -/
def y4 : Ty := ⟨.bool, 1, false, .bool false, 1⟩
theorem ty4 : tyOf Try.prog 4 = some y4 := by kernel_rfl
/-- uint8 -/
def y5 : Ty := ⟨.int .u8, 1, false, .int .u8 0, 1⟩
theorem ty5 : tyOf Try.prog 5 = some y5 := by kernel_rfl
/-- int32 -/
def y21 : Ty := ⟨.int .i32, 1, false, .int .i32 0, 4⟩
theorem ty21 : tyOf Try.prog 21 = some y21 := by kernel_rfl
/-- []uint8 -/
def y22 : Ty := ⟨.slc 5, 1, false, .slice none 0 0, 24⟩
theorem ty22 : tyOf Try.prog 22 = some y22 := by kernel_rfl
/-- uint32 -/
def y23 : Ty := ⟨.int .u32, 1, false, .int .u32 0, 4⟩
theorem ty23 : tyOf Try.prog 23 = some y23 := by kernel_rfl
/-- impl.Rules -/
def y25 : Ty := ⟨.stc [(0, 22), (1, 23), (2, 2), (3, 2), (4, 2), (5, 4), (6, 2), (7, 4), (8, 21), (9, 21), (10, 21)], 11, true, .agg #[.slice none 0 0, .int .u32 0, .int .i64 0, .int .i64 0, .int .i64 0, .bool false, .int .i64 0, .bool false, .int .i32 0, .int .i32 0, .int .i32 0], 88⟩
theorem ty25 : tyOf Try.prog 25 = some y25 := by kernel_rfl
/-- []impl.Header -/
def y26 : Ty := ⟨.slc 37, 1, false, .slice none 0 0, 24⟩
theorem ty26 : tyOf Try.prog 26 = some y26 := by kernel_rfl
/-- [32]uint8 -/
def y35 : Ty := ⟨.arr 32 5, 32, true, .agg #[.int .u8 0, .int .u8 0, .int .u8 0, .int .u8 0, .int .u8 0, .int .u8 0, .int .u8 0, .int .u8 0, .int .u8 0, .int .u8 0, .int .u8 0, .int .u8 0, .int .u8 0, .int .u8 0, .int .u8 0, .int .u8 0, .int .u8 0, .int .u8 0, .int .u8 0, .int .u8 0, .int .u8 0, .int .u8 0, .int .u8 0, .int .u8 0, .int .u8 0, .int .u8 0, .int .u8 0, .int .u8 0, .int .u8 0, .int .u8 0, .int .u8 0, .int .u8 0], 32⟩
theorem ty35 : tyOf Try.prog 35 = some y35 := by kernel_rfl
/-- impl.Header -/
def y37 : Ty := ⟨.stc [(0, 21), (1, 35), (33, 35), (65, 23), (66, 23), (67, 23)], 68, true, .agg #[.int .i32 0, .int .u8 0, .int .u8 0, .int .u8 0, .int .u8 0, .int .u8 0, .int .u8 0, .int .u8 0, .int .u8 0, .int .u8 0, .int .u8 0, .int .u8 0, .int .u8 0, .int .u8 0, .int .u8 0, .int .u8 0, .int .u8 0, .int .u8 0, .int .u8 0, .int .u8 0, .int .u8 0, .int .u8 0, .int .u8 0, .int .u8 0, .int .u8 0, .int .u8 0, .int .u8 0, .int .u8 0, .int .u8 0, .int .u8 0, .int .u8 0, .int .u8 0, .int .u8 0, .int .u8 0, .int .u8 0, .int .u8 0, .int .u8 0, .int .u8 0, .int .u8 0, .int .u8 0, .int .u8 0, .int .u8 0, .int .u8 0, .int .u8 0, .int .u8 0, .int .u8 0, .int .u8 0, .int .u8 0, .int .u8 0, .int .u8 0, .int .u8 0, .int .u8 0, .int .u8 0, .int .u8 0, .int .u8 0, .int .u8 0, .int .u8 0, .int .u8 0, .int .u8 0, .int .u8 0, .int .u8 0, .int .u8 0, .int .u8 0, .int .u8 0, .int .u8 0, .int .u32 0, .int .u32 0, .int .u32 0], 80⟩
theorem ty37 : tyOf Try.prog 37 = some y37 := by kernel_rfl
/-- uint64 -/
def y53 : Ty := ⟨.int .u64, 1, false, .int .u64 0, 8⟩
theorem ty53 : tyOf Try.prog 53 = some y53 := by kernel_rfl

/-- function 7: pub-mintmark/spec.NextBits -/
def tys7 : Nat → Option Ty := fun t => find [(25, y25), (26, y26), (37, y37), (3, y3), (22, y22), (5, y5), (23, y23), (2, y2), (4, y4), (21, y21), (35, y35), (53, y53)] t
theorem ok7 : TysOk Try.prog tys7 := tysOk_of ⟨ty25, ty26, ty37, ty3, ty22, ty5, ty23, ty2, ty4, ty21, ty35, ty53, trivial⟩
end Go.Proofs.Ytekoipmmmoofpaa.Tynr
set_option linter.unusedSimpArgs false
set_option linter.unusedVariables false
namespace Go.Se
open Go
/-- The lesser of two numbers. -/
theorem gen_min {C : Cx} {s : St} {o : Oper} {c : Call} {x y : Int} {K : RO → List (Nat × HB) → Nat → List Row → SV → Prop} (ho : o.op = .call c) (hc : c.callee = .builtin .min) (ha : evs s c.args.toList = some [.v (.int .i64 x), .v (.int .i64 y)])
    (m : Int) (hm : m = if y < x then y else x) (hk : K s.R s.hp s.nx s.rw_ (.v (.int .i64 m))) : GenP C s o K := by
  subst hm
  refine gen_pure (.v (.int .i64 (if y < x then y else x))) trivial (fun ρ w hr ev hev => ?_) hk
  have e2 := evs_arr hev ha
  unfold execOp
  rw [ho]
  simp only [resolve, hc, bind, pure, Sem.bind, invoke, builtin, e2, valL, val]
  rw [run_bind_pure (run_min_int2 (w := w) _ _ _ _ x y)]
  simp [Sem.run]

/-- The greater of two numbers. -/
theorem gen_max {C : Cx} {s : St} {o : Oper} {c : Call} {x y : Int} {K : RO → List (Nat × HB) → Nat → List Row → SV → Prop} (ho : o.op = .call c) (hc : c.callee = .builtin .max) (ha : evs s c.args.toList = some [.v (.int .i64 x), .v (.int .i64 y)])
    (m : Int) (hm : m = if y > x then y else x) (hk : K s.R s.hp s.nx s.rw_ (.v (.int .i64 m))) : GenP C s o K := by
  subst hm
  refine gen_pure (.v (.int .i64 (if y > x then y else x))) trivial (fun ρ w hr ev hev => ?_) hk
  have e2 := evs_arr hev ha
  unfold execOp
  rw [ho]
  simp only [resolve, hc, bind, pure, Sem.bind, invoke, builtin, e2, valL, val]
  rw [run_bind_pure (run_max_int2 (w := w) _ _ _ _ x y)]
  simp [Sem.run]
end Go.Se
namespace Go.Proofs.Ytekoipmmmoofpaa.Co
open Go Go.Se Go.Proofs Go.Proofs.Ytekoipmmmoofpaa.Ht Go.Proofs.Ytekoipmmmoofpaa.Tynr


set_option maxRecDepth 100000 in
set_option maxHeartbeats 8000000 in
theorem specNext {P : Program} (hP : P = Try.prog) (R : RO) (la : Option Addr) (ln lc L : Nat) (xs : List Int) (h : RI R .u8 la ln xs) (hc : ln ≤ lc) (hN : ln ≤ 32) (hx : xs = (dl L).reverse) (hne : ln ≠ 0 → xs.getD 0 0 ≠ 0)
    (lb ts sp fa : Int) (re : Bool) (ra : Int) (fi : Bool) (h34 h66 h65 : Int) (hq : Rul lb ts sp fa ra) (hmn : 1 ≤ ts / fa)
    (a : Option Addr) (n c : Nat) (hs : List GH) (hl : LAt R 68 HAt a n c hs) (hn1 : 1 ≤ n) (hn8 : n ≤ 80) (hg : ∀ g ∈ hs, Gd g) (w lbn : Nat) (hw : ts / sp = w) (hlb : lb = lbn) (sec : Int) (hs0 : 0 ≤ sec) (hs1 : sec < 4294967296)
    (X : Nat) (hX : X = NB w lbn ts fa re ra fi L hs sec) :
    RetP P 7 [rvs la ln lc lb ts sp fa re ra fi h34 h66 h65, .slice a n c, .int .i64 sec] R fun _ r => ∃ x : Int, r = .int .u32 x ∧ x = X := by
  subst hP
  have hln := hl.len
  have hww := hq.w
  have hw1 : 1 ≤ w ∧ w ≤ 20 := by omega
  have hL : (dl L).length ≤ 32 := by rw [← List.length_reverse, ← hx, ← h.len]; exact hN
  obtain ⟨g, hgg⟩ : ∃ g, hs[n - 1]? = some g := ⟨_, List.getElem?_eq_getElem (by omega)⟩
  have hbj : bt hs (n - 1) = g.bits := bt_get hgg
  have htj : tm hs (n - 1) = g.time := tm_get hgg
  have hgm := hg g (List.mem_of_getElem? hgg)
  have hgt : g.time < 4294967296 ∧ g.bits < 4294967296 := by
    obtain ⟨_, cs, _, _, _, h3⟩ := hl.at_ _ g hgg
    exact h3.fld.2.2
  refine retP_vc (fz := [507, 508]) Try.func7 rfl (by decide) rfl ok7 ?_
  intro P bin cmp cnv neg com bnot beq ofN toN at_ sub_ scmp cat sget ssz ssub elem fld_ hP hA
  conv => cbv
  have o := ofN_ hA n
  refine ix_at hA hl (n - 1) (by rw [o, sub_i64 hA (by omega)]; omega) (by omega) ?_
  refine ld_whole hA hl (n - 1) (by rw [o, sub_i64 hA (by omega)]; omega) hgg ?_
  intro cs hcl hcs
  obtain ⟨v7, ti, bi, n7i, ps, qs, rfl, hpl, hql, hti, hbi, -, -⟩ := hcs
  obtain ⟨p0, p1, p2, p3, p4, p5, p6, p7, p8, p9, p10, p11, p12, p13, p14, p15, p16, p17, p18, p19, p20, p21, p22, p23, p24, p25, p26, p27, p28, p29, p30, p31, rfl⟩ := l32 hpl
  obtain ⟨q0, q1, q2, q3, q4, q5, q6, q7, q8, q9, q10, q11, q12, q13, q14, q15, q16, q17, q18, q19, q20, q21, q22, q23, q24, q25, q26, q27, q28, q29, q30, q31, rfl⟩ := l32 hql
  conv => cbv
  refine ⟨_, rfl, by decide, ?_⟩
  intro a7 n7 z7 hn7 hz7
  obtain rfl : n7 = 68 := hn7
  have hz70 : z7.length = 68 := by rw [hz7]; rfl
  conv => cbv
  refine ⟨0, _, _, 0, rfl, rfl, rfl, by show 0 + 68 ≤ z7.length; omega, ?_⟩
  intro y7 hy7
  have h765 : y7[65]? = some (.int .u32 ti) := by rw [hy7]; rfl
  have h766 : y7[66]? = some (.int .u32 bi) := by rw [hy7]; rfl
  clear hy7
  conv => cbv
  refine (windowS hP R la ln lc lb ts sp fa re ra fi h34 h66 h65 hq).callQ rfl ?_
  rintro _ ⟨wv, rfl, hwv⟩
  conv => cbv
  refine ⟨by omega, ?_⟩
  have er : cmp .neq (bin .rem .i64 (ofN n) wv) 0 = decide (n % w ≠ 0) := by
    rw [rem_i64 hA (by omega), cmp_neq hA, o, hwv, hw, ← Int.natCast_emod]
    by_cases h : n % w = 0
    · rw [h]; simp
    · rw [decide_eq_true h]; exact bne_iff_ne.2 (Int.natCast_ne_zero.2 h)
  by_cases hnw : n % w = 0
  case neg =>
    rw [decide_eq_true hnw] at er
    simp (maxSteps := 10000000) only [er]
    conv => cbv
    have h5 := hq.ra0
    have h6 := hq.ra1
    cases hre : re with
    | false =>
      have nf : bnot false = true := by rw [bnot_ hA]; rfl
      conv => cbv
      simp (maxSteps := 10000000) only [nf]
      conv => cbv
      refine ld_rfld (fld__is hA) 0 rfl rfl 66 h766 ?_
      conv => cbv
      intro ρ R'' _ _ _
      exact ⟨_, rfl, by rw [hbi, NB_a hX hln.symm hnw hre, hbj]⟩
    | true =>
      have nt : bnot true = false := by rw [bnot_ hA]; rfl
      conv => cbv
      simp (maxSteps := 10000000) only [nt]
      conv => cbv
      refine ld_rfld (fld__is hA) 0 rfl rfl 65 h765 ?_
      conv => cbv
      have e1 : bin .add .i64 (cnv .i64 ti) ra = (g.time : Int) + ra := by
        rw [cnv_i64 hA (by omega), hti, add_i64 hA (by omega)]
      by_cases hlt : (g.time : Int) + ra < sec
      · refine br_t (by rw [e1, cmp_gtr hA]; exact decide_eq_true hlt) ?_
        conv => cbv
        intro ρ R'' _ _ _
        exact ⟨_, rfl, by rw [hlb, NB_b hX hln.symm hnw hre (by rw [htj]; exact hlt)]⟩
      refine br_f (by rw [e1, cmp_gtr hA]; exact decide_eq_false hlt) ?_
      conv => cbv
      refine (earlierS hP R la ln lc lb ts sp fa true ra fi h34 h66 h65 hq a n c hs hl hn1 hn8 w lbn hw hlb _ rfl).callQ rfl ?_
      rintro _ ⟨x, rfl, hx1⟩
      conv => cbv
      intro ρ R'' _ _ _
      exact ⟨_, rfl, by rw [hx1, NB_c hX hln.symm hnw hre (by rw [htj]; exact hlt)]⟩
  rw [decide_eq_false (fun h => h hnw)] at er
  simp (maxSteps := 10000000) only [er]
  conv => cbv
  have hwn : w ≤ n := Nat.le_of_dvd (by omega) (Nat.dvd_of_mod_eq_zero hnw)
  obtain ⟨g2, hgg2⟩ : ∃ g, hs[n - w]? = some g := ⟨_, List.getElem?_eq_getElem (by omega)⟩
  have hbj2 : bt hs (n - w) = g2.bits := bt_get hgg2
  have htj2 : tm hs (n - w) = g2.time := tm_get hgg2
  have hgm2 := hg g2 (List.mem_of_getElem? hgg2)
  have hgt2 : g2.time < 4294967296 ∧ g2.bits < 4294967296 := by
    obtain ⟨_, cs, _, _, _, h3⟩ := hl.at_ _ g2 hgg2
    exact h3.fld.2.2
  refine (windowS hP R la ln lc lb ts sp fa re ra fi h34 h66 h65 hq).callQ rfl ?_
  rintro _ ⟨wv2, rfl, hwv2⟩
  conv => cbv
  have hix : bin .sub .i64 (ofN n) wv2 = ((n - w : Nat) : Int) := by rw [o, hwv2, hw, sub_i64 hA (by omega)]; omega
  refine ix_at hA hl (n - w) hix (by omega) ?_
  refine ld_whole hA hl (n - w) hix hgg2 ?_
  intro cs2 hcl2 hcs2
  obtain ⟨v8, ti2, bi2, n8i, ps, qs, rfl, hpl, hql, hti2, hbi2, -, -⟩ := hcs2
  obtain ⟨r0, r1, r2, r3, r4, r5, r6, r7, r8, r9, r10, r11, r12, r13, r14, r15, r16, r17, r18, r19, r20, r21, r22, r23, r24, r25, r26, r27, r28, r29, r30, r31, rfl⟩ := l32 hpl
  obtain ⟨s0, s1, s2, s3, s4, s5, s6, s7, s8, s9, s10, s11, s12, s13, s14, s15, s16, s17, s18, s19, s20, s21, s22, s23, s24, s25, s26, s27, s28, s29, s30, s31, rfl⟩ := l32 hql
  conv => cbv
  refine ⟨_, rfl, by decide, ?_⟩
  intro a8 n8 z8 hn8_ hz8
  obtain rfl : n8 = 68 := hn8_
  have hz80 : z8.length = 68 := by rw [hz8]; rfl
  conv => cbv
  refine ⟨0, _, _, 0, rfl, rfl, rfl, by show 0 + 68 ≤ z8.length; omega, ?_⟩
  intro y8 hy8
  have h865 : y8[65]? = some (.int .u32 ti2) := by rw [hy8]; rfl
  have h866 : y8[66]? = some (.int .u32 bi2) := by rw [hy8]; rfl
  clear hy8
  conv => cbv
  refine ld_rfld (fld__is hA) 1 rfl rfl 65 h765 ?_
  conv => cbv
  refine ld_rfld (fld__is hA) 0 rfl rfl 65 h865 ?_
  conv => cbv
  obtain ⟨df, hdf⟩ : ∃ df, df = bin .sub .i64 (cnv .i64 ti) (cnv .i64 ti2) := ⟨_, rfl⟩
  simp (maxSteps := 10000000) only [← hdf]
  have hdf2 : df = (tm hs (n - 1) : Int) - (tm hs (n - w) : Int) := by rw [hdf, cnv_i64 hA (by omega), cnv_i64 hA (by omega), hti, hti2, sub_i64 hA (by omega), htj, htj2]
  have h1 := hq.sp0
  have h2 := hq.ts0
  have h3 := hq.ts1
  have h4 := hq.sp1
  have h5 := hq.fa0
  have h6 := hq.fa1
  have hmx := hq.mx
  have hdm := div_le_mul (ts := ts) (fa := fa) (by omega) h5
  have hbd := clamp_bd (d := df) hmn hdm hmx.2
  have q1 : bin .mul .i64 ts fa = ts * fa := mul_i64 hA (by omega)
  have q2 : bin .quo .i64 ts fa = ts / fa := quo_i64 hA (by omega) (by omega) (by omega)
  refine ⟨[0, 1, 2, 3, 4, 5, 6, 7, 8, 9, 10, 11, 12, 13], [12], mix hP, by kernel_rfl, ?_⟩
  conv => cbv
  refine ⟨by omega, ?_⟩
  obtain ⟨m1, hm1⟩ : ∃ m : Int, m = if df < bin .mul .i64 ts fa then df else bin .mul .i64 ts fa := ⟨_, rfl⟩
  refine gen_min rfl rfl rfl m1 hm1 ?_
  conv => cbv
  refine ⟨⟨⟨rfl, trivial⟩, .refl _⟩, ?_⟩
  conv => cbv
  obtain ⟨m2, hm2⟩ : ∃ m : Int, m = if m1 > bin .quo .i64 ts fa then m1 else bin .quo .i64 ts fa := ⟨_, rfl⟩
  refine gen_max rfl rfl rfl m2 hm2 ?_
  conv => cbv
  have hmc : m2 = clampI ts fa df := by
    rw [q1] at hm1
    rw [q2] at hm2
    rw [hm2, hm1, clampI]
    split <;> split <;> split <;> omega
  obtain ⟨s, hsn⟩ : ∃ s : Nat, (s : Int) = clampI ts fa df := ⟨(clampI ts fa df).toNat, Int.toNat_of_nonneg (by omega)⟩
  obtain ⟨t, htn⟩ : ∃ t : Nat, (t : Int) = ts := ⟨ts.toNat, Int.toNat_of_nonneg (by omega)⟩
  have hcl9 : clampI ts fa ((tm hs (n - 1) : Int) - (tm hs (n - w) : Int)) = clampI ts fa df := by rw [hdf2]
  have hs16 : s ≤ 160000 := by omega
  have hs01 : 1 ≤ s := by omega
  have ht01 : 1 ≤ t ∧ t ≤ 20000 := by omega
  have hms : cnv .u64 m2 = (s : Int) := by rw [cnv_u64 hA (by omega), hmc, hsn]
  have htt : cnv .u64 ts = (t : Int) := by rw [cnv_u64 hA (by omega), htn]
  obtain ⟨Y, hY⟩ : ∃ Y, Y = tgb (g.bits / 16777216) (g.bits % 8388608) := ⟨_, rfl⟩
  obtain ⟨Y2, hY2⟩ : ∃ Y, Y = tgb (g2.bits / 16777216) (g2.bits % 8388608) := ⟨_, rfl⟩
  have hYt : Y = tgo g.bits := hY
  have hYt2 : Y2 = tgo g2.bits := hY2
  have hYl : Y < 2 ^ 256 := by rw [hYt]; exact hgm.2.2.2
  have hYl2 : Y2 < 2 ^ 256 := by rw [hYt2]; exact hgm2.2.2.2
  refine ld_rfld (fld__is hA) 1 rfl rfl 66 h766 ?_
  conv => cbv
  cases hfi : fi with
  | false =>
    conv => cbv
    have hXd : X = cmpt (if L < Y * s / t then L else Y * s / t) := NB_d hX hln.symm hnw s (Y * s / t) _ t (hsn.trans hcl9.symm) rfl htn (by rw [hYt, hfi]; simp only [hbj, hbj2]; rfl)
    have hsz := nw_sz (t := t) hYl hs16
    have hYd : (dl Y).length ≤ 32 := dl_sz (by rw [pw8]; exact hYl)
    refine (targetS hP R g.bits (g.bits / 16777216) (g.bits % 8388608) bi hbi rfl rfl (hgt.2) Y hY).callP rfl ?_
    rintro R1 _ hR1 ⟨at_9, nt9, ct9, bl9, rfl, hr9, hc9, -⟩
    have hnt9 : nt9 ≤ 32 := by rw [hr9.len, List.length_reverse]; exact hYd
    conv => cbv
    refine ⟨[0, 1, 2, 4, 5, 6, 3, 7, 8, 9, 10, 11], [7], mix hP, by kernel_rfl, ?_⟩
    conv => cbv
    refine (timesP hP R1 at_9 nt9 ct9 _ hr9 hc9 (by omega) s (cnv .u64 m2) hms (by omega)).callP rfl ?_
    rintro R2 _ hR2 ⟨a2, n2, c2, rfl, hr2, hc2⟩
    rw [be_rev] at hr2
    have hn2 : n2 ≤ 36 := by
      have h1 := hr2.len
      rw [List.length_reverse] at h1
      have h2 := (nw_sz (t := 1) hYl hs16).2.2.2
      rw [Nat.div_one] at h2
      omega
    conv => cbv
    refine ⟨⟨⟨rfl, trivial⟩, .refl _⟩, ?_⟩
    conv => cbv
    refine (overP hP R2 a2 n2 c2 _ hr2 hc2 (by omega) t (cnv .u64 ts) htt ht01.1 (by omega)).callP rfl ?_
    rintro R3 _ hR3 ⟨a3, n3, c3, l3, rfl, hr3, hc3⟩
    rw [be_rev] at hr3
    have hn3 : n3 ≤ 36 := by
      have h1 := hr3.len
      rw [List.length_reverse] at h1
      omega
    have hR03 : R.le R3 := RO.le_trans hR1 (RO.le_trans hR2 hR3)
    conv => cbv
    refine (compareG hP R3 a3 la n3 c3 ln lc _ xs hr3 hc3 (by omega) (h.le hR03) hc (by omega)).callQ rfl ?_
    rintro _ ⟨ci, rfl, hci⟩
    rw [be_rev, hx, be_rev] at hci
    conv => cbv
    by_cases hLN : L < Y * s / t
    · refine br_t (by rw [cmp_gtr hA]; exact decide_eq_true (hci.2 hLN)) ?_
      conv => cbv
      rw [if_pos hLN] at hXd
      refine (compactS hP R3 la ln lc L xs (h.le hR03) hc (by omega) hx hne X hXd).callQ rfl ?_
      rintro _ ⟨c9, rfl, hc9⟩
      conv => cbv
      intro ρ R'' _ _ _
      exact ⟨_, rfl, hc9⟩
    refine br_f (by rw [cmp_gtr hA]; exact decide_eq_false (fun h => hLN (hci.1 h))) ?_
    conv => cbv
    rw [if_neg hLN] at hXd
    have hne3 : n3 ≠ 0 → (dl (Y * s / t)).reverse.getD 0 0 ≠ 0 := fun h0 => dl_top fun e => h0 (by rw [hr3.len, e, dl0]; rfl)
    refine (compactS hP R3 a3 n3 c3 (Y * s / t) _ hr3 hc3 (by omega) rfl hne3 X hXd).callQ rfl ?_
    rintro _ ⟨c9, rfl, hc9⟩
    conv => cbv
    intro ρ R'' _ _ _
    exact ⟨_, rfl, hc9⟩
  | true =>
    conv => cbv
    refine ld_rfld (fld__is hA) 0 rfl rfl 66 h866 ?_
    conv => cbv
    have hXd : X = cmpt (if L < Y2 * s / t then L else Y2 * s / t) := NB_d hX hln.symm hnw s (Y2 * s / t) _ t (hsn.trans hcl9.symm) rfl htn (by rw [hYt2, hfi]; simp only [hbj, hbj2]; rfl)
    have hsz := nw_sz (t := t) hYl2 hs16
    have hYd : (dl Y2).length ≤ 32 := dl_sz (by rw [pw8]; exact hYl2)
    refine (targetS hP R g2.bits (g2.bits / 16777216) (g2.bits % 8388608) bi2 hbi2 rfl rfl (hgt2.2) Y2 hY2).callP rfl ?_
    rintro R1 _ hR1 ⟨at_9, nt9, ct9, bl9, rfl, hr9, hc9, -⟩
    have hnt9 : nt9 ≤ 32 := by rw [hr9.len, List.length_reverse]; exact hYd
    conv => cbv
    refine ⟨[0, 1, 2, 4, 5, 6, 3, 7, 8, 9, 10, 11], [7], mix hP, by kernel_rfl, ?_⟩
    conv => cbv
    refine (timesP hP R1 at_9 nt9 ct9 _ hr9 hc9 (by omega) s (cnv .u64 m2) hms (by omega)).callP rfl ?_
    rintro R2 _ hR2 ⟨a2, n2, c2, rfl, hr2, hc2⟩
    rw [be_rev] at hr2
    have hn2 : n2 ≤ 36 := by
      have h1 := hr2.len
      rw [List.length_reverse] at h1
      have h2 := (nw_sz (t := 1) hYl2 hs16).2.2.2
      rw [Nat.div_one] at h2
      omega
    conv => cbv
    refine ⟨⟨⟨rfl, trivial⟩, .refl _⟩, ?_⟩
    conv => cbv
    refine (overP hP R2 a2 n2 c2 _ hr2 hc2 (by omega) t (cnv .u64 ts) htt ht01.1 (by omega)).callP rfl ?_
    rintro R3 _ hR3 ⟨a3, n3, c3, l3, rfl, hr3, hc3⟩
    rw [be_rev] at hr3
    have hn3 : n3 ≤ 36 := by
      have h1 := hr3.len
      rw [List.length_reverse] at h1
      omega
    have hR03 : R.le R3 := RO.le_trans hR1 (RO.le_trans hR2 hR3)
    conv => cbv
    refine (compareG hP R3 a3 la n3 c3 ln lc _ xs hr3 hc3 (by omega) (h.le hR03) hc (by omega)).callQ rfl ?_
    rintro _ ⟨ci, rfl, hci⟩
    rw [be_rev, hx, be_rev] at hci
    conv => cbv
    by_cases hLN : L < Y2 * s / t
    · refine br_t (by rw [cmp_gtr hA]; exact decide_eq_true (hci.2 hLN)) ?_
      conv => cbv
      rw [if_pos hLN] at hXd
      refine (compactS hP R3 la ln lc L xs (h.le hR03) hc (by omega) hx hne X hXd).callQ rfl ?_
      rintro _ ⟨c9, rfl, hc9⟩
      conv => cbv
      intro ρ R'' _ _ _
      exact ⟨_, rfl, hc9⟩
    refine br_f (by rw [cmp_gtr hA]; exact decide_eq_false (fun h => hLN (hci.1 h))) ?_
    conv => cbv
    rw [if_neg hLN] at hXd
    have hne3 : n3 ≠ 0 → (dl (Y2 * s / t)).reverse.getD 0 0 ≠ 0 := fun h0 => dl_top fun e => h0 (by rw [hr3.len, e, dl0]; rfl)
    refine (compactS hP R3 a3 n3 c3 (Y2 * s / t) _ hr3 hc3 (by omega) rfl hne3 X hXd).callQ rfl ?_
    rintro _ ⟨c9, rfl, hc9⟩
    conv => cbv
    intro ρ R'' _ _ _
    exact ⟨_, rfl, hc9⟩
end Go.Proofs.Ytekoipmmmoofpaa.Co
