/- Great numbers: what a compact number stands for, by the package; the law. -/
import Derived.Test.YtnlpjppjhikooaaCof
import Derived.Test.YtnlpjppjhikooaaTyct
set_option linter.unusedSimpArgs false
set_option linter.unusedVariables false
namespace Go.Proofs.Ytnlpjppjhikooaa.Co
open Go Go.Se Go.Proofs Go.Proofs.Ytnlpjppjhikooaa.Ht Go.Proofs.Ytnlpjppjhikooaa.Tyct

theorem parts (X : Nat) (hL : (dl X).length ≤ 250) : ∃ E M : Nat, cmpt X = E * 16777216 + M ∧ M < 8388608 ∧ E ≤ 251 ∧ tgt X = (if E ≤ 3 then M / 256 ^ (3 - E) else M * 256 ^ (E - 3)) ∧ (3 < E → M ≠ 0) := by
  by_cases h : X = 0
  · exact ⟨0, 0, by rw [cmpt, if_pos h], by decide, by decide, by rw [tgt, if_pos h]; simp, fun h => absurd h (by decide)⟩
  · refine ⟨ex X, mx X, cmpt_eq h, mx_lt X, ?_, by rw [tgt, if_neg h], fun _ => by have := mx_pos h; omega⟩
    rw [ex]
    split <;> omega

theorem tgt_len' (X : Nat) : (dl (tgt X)).length = (dl X).length := by
  by_cases h : X = 0
  · rw [h]; rfl
  · exact tgt_len h



set_option maxRecDepth 100000 in
set_option maxHeartbeats 4000000 in
theorem targetI {P : Program} (hP : P = Try.prog) (R : RO) (X : Nat) (hL : (dl X).length ≤ 250) (ci : Int) (CX : Nat) (hCX : CX = cmpt X) (hci : ci = CX) (TT : List Int) (hTT : TT = (dl (tgt X)).reverse) :
    RetP P 14 [.int .u32 ci] R fun R' r => ∃ a n c, r = .tuple #[.slice a n c, .bool false] ∧ RI R' .u8 a n TT ∧ n ≤ c := by
  subst hP
  obtain ⟨E, M, hC, hM, hE, hT, hpos⟩ := parts X hL
  rw [hC] at hCX
  obtain ⟨Y, hY⟩ : ∃ Y, Y = tgt X := ⟨_, rfl⟩
  have hYt := hY
  rw [hT] at hY
  have hYl : (dl Y).length ≤ 250 := by rw [hYt, tgt_len']; exact hL
  refine retP_vc (fz := []) Try.func14 rfl (by decide) rfl ok14 ?_
  intro P bin cmp cnv neg com bnot beq ofN toN at_ sub_ scmp cat sget ssz ssub elem fld_ hP hA
  conv => cbv
  refine callP_in (fz := []) hP hA Try.func25 rfl (by decide) rfl ok25 (by simp [labL, lab]) ?_
  conv => cbv
  refine callP_in (fz := []) hP hA Try.func40 rfl (by decide) rfl ok40 (by simp [labL, lab]) ?_
  conv => cbv
  have e1 : bin .and .u32 ci 8388607 = (M : Int) := by
    rw [hci]
    refine (and_u32 hA (y := 8388607) (by omega) (by decide)).trans ?_
    rw [show 8388607 = 2 ^ 23 - 1 by decide, Nat.and_two_pow_sub_one_eq_mod]
    congr 1
    omega
  have e2 : cmp .neq (bin .and .u32 ci 8388608) 0 = false := by
    have h1 : bin .and .u32 ci 8388608 = 0 := by
      rw [hci]
      refine (and_u32 hA (y := 8388608) (by omega) (by decide)).trans ?_
      rw [and23 (by omega)]
      rfl
    rw [h1, cmp_neq hA]
    rfl
  have e3 : cnv .u64 (bin .shr .u32 ci 24) = (E : Int) := by
    have h1 : bin .shr .u32 ci 24 = (E : Int) := by
      rw [hci, shr_u32 hA (by decide)]
      show (CX : Int) / 2 ^ 24 = _
      omega
    rw [h1]
    exact cnv_u64 hA (by omega)
  simp (maxSteps := 10000000) only [e2]
  conv => cbv
  refine ⟨by decide, ?_⟩
  by_cases h3 : E ≤ 3
  · rw [if_pos h3] at hY
    refine br_t (by rw [e3, cmp_leq hA]; simp; omega) ?_
    conv => cbv
    have es : bin .mul .u64 8 (bin .sub .u64 3 (cnv .u64 (bin .shr .u32 ci 24))) = ((8 * (3 - E) : Nat) : Int) := by
      have e4 : bin .sub .u64 3 (cnv .u64 (bin .shr .u32 ci 24)) = ((3 - E : Nat) : Int) := by rw [e3, sub_u64 hA (by omega)]; omega
      rw [e4, mul_u64 hA (by omega)]
      omega
    have hYM : Y ≤ M := by rw [hY]; exact Nat.div_le_self _ _
    refine ⟨by rw [es]; omega, ?_⟩
    refine callP_in (fz := []) hP hA Try.func57 rfl (by decide) rfl ok57 (by simp [labL, lab]) ?_
    conv => cbv
    refine callP_in (fz := []) hP hA Try.func81 rfl (by decide) rfl ok81 (by simp [labL, lab]) ?_
    conv => cbv
    have hvv : cnv .i64 (bin .shr .u32 (bin .and .u32 ci 8388607) (bin .mul .u64 8 (bin .sub .u64 3 (cnv .u64 (bin .shr .u32 ci 24))))) = ((Y : Nat) : Int) := (by rw [e1, es, shn_u32 hA (by omega), ← pw8, ← hY]; exact cnv_i64 hA (by omega))
    have cl : cmp .lss (cnv .i64 (bin .shr .u32 (bin .and .u32 ci 8388607) (bin .mul .u64 8 (bin .sub .u64 3 (cnv .u64 (bin .shr .u32 ci 24)))))) 0 = false := by rw [hvv, cmp_lss hA]; exact decide_eq_false (by omega)
    simp (maxSteps := 10000000) only [cl]
    conv => cbv
    refine (natOfP hP R Y (cnv .u64 (cnv .i64 (bin .shr .u32 (bin .and .u32 ci 8388607) (bin .mul .u64 8 (bin .sub .u64 3 (cnv .u64 (bin .shr .u32 ci 24))))))) (by rw [hvv]; exact cnv_u64 hA (by omega)) (by omega)).callP rfl ?_
    rintro Rc _ hRc ⟨aA, nA, cA, rfl, hr, hcA⟩
    conv => cbv
    simp (maxSteps := 10000000) only [cl]
    conv => cbv
    have hnA : nA ≤ 100000 := by
      have h1 := hr.len
      by_cases e : Y = 0
      · rw [e, cn0] at h1; simp at h1; omega
      · have h2 := (cn_len Y e).2
        have h3 := dl_lt Y
        rw [pw8] at h3
        rw [pw] at h2
        have := (Nat.pow_lt_pow_iff_right (by decide : 1 < 2)).1 (Nat.lt_of_le_of_lt h2 h3)
        omega
    refine bytesC hP Rc aA nA cA Y hr hcA hnA (by omega) ?_
    intro ab L zs hL2 hzs
    conv => cbv
    refine callP_in (fz := []) hP hA Try.func26 rfl (by decide) rfl ok26 (by simp [labL, lab]) ?_
    conv => cbv
    refine ⟨0, [], _, _, _, L, zs, .own _ 0 _ [] rfl rfl rfl rfl (by decide), .refl _, src_row (r := ⟨some ab, L, L, 5, 1, zs⟩) (List.mem_cons_self ..) (fun _ => rfl) (by show zs.length = _; rw [hzs, ints_len, List.length_reverse, hL2, Nat.mul_one]) (by show ∀ v ∈ zs, _; rw [hzs]; exact ints_one _ _), by omega, by omega, ?_⟩
    intro a9 n9 c9 z9 hn9 hz9 hs9
    conv => cbv
    refine callP_in (fz := []) hP hA Try.func28 rfl (by decide) rfl ok28 (by simp [labL, lab]) ?_
    conv => cbv
    have oA := ofN_ hA nA
    have s0 : cmp .lss 0 0 = false := by rw [cmp_lss hA]; rfl
    have s1 : cmp .lss 1 0 = false := by rw [cmp_lss hA]; rfl
    have wf8 : ∀ x ∈ TT, (Lit.int .u8 x).wf = true := fun x hx => by
      rw [hTT] at hx
      exact Ht.wf8 (dl_wf _ x (List.mem_reverse.1 hx))
    by_cases hn0 : nA = 0
    · refine br_t (by rw [oA, cmp_eql hA]; simp; omega) ?_
      conv => cbv
      simp (maxSteps := 10000000) only [s0]
      conv => cbv
      intro ρ R'' hle _ hpr
      exact ⟨a9, n9, c9, rfl, (hpr _ (List.mem_cons_self ..)).ri (by show n9 = _; rw [hn9, hTT, ← hYt, List.length_reverse]; omega) hs9 rfl (by show z9 = _; rw [hz9, hzs, hTT, ← hYt]; rfl) wf8, (hpr _ (List.mem_cons_self ..)).cap_ hs9⟩
    refine br_f (by rw [oA, cmp_eql hA]; simp; omega) ?_
    conv => cbv
    simp (maxSteps := 10000000) only [s1]
    conv => cbv
    intro ρ R'' hle _ hpr
    exact ⟨a9, n9, c9, rfl, (hpr _ (List.mem_cons_self ..)).ri (by show n9 = _; rw [hn9, hTT, ← hYt, List.length_reverse]; omega) hs9 rfl (by show z9 = _; rw [hz9, hzs, hTT, ← hYt]; rfl) wf8, (hpr _ (List.mem_cons_self ..)).cap_ hs9⟩
  rw [if_neg h3] at hY
  refine br_f (by rw [e3, cmp_leq hA]; simp; omega) ?_
  conv => cbv
  have es : bin .mul .u64 8 (bin .sub .u64 (cnv .u64 (bin .shr .u32 ci 24)) 3) = ((8 * (E - 3) : Nat) : Int) := by
    have e4 : bin .sub .u64 (cnv .u64 (bin .shr .u32 ci 24)) 3 = ((E - 3 : Nat) : Int) := by rw [e3, sub_u64 hA (by omega)]; omega
    rw [e4, mul_u64 hA (by omega)]
    omega
  refine callP_in (fz := []) hP hA Try.func57 rfl (by decide) rfl ok57 (by simp [labL, lab]) ?_
  conv => cbv
  refine callP_in (fz := []) hP hA Try.func81 rfl (by decide) rfl ok81 (by simp [labL, lab]) ?_
  conv => cbv
  have hvv : cnv .i64 (bin .and .u32 ci 8388607) = ((M : Nat) : Int) := (by rw [e1]; exact cnv_i64 hA (by omega))
  have cl : cmp .lss (cnv .i64 (bin .and .u32 ci 8388607)) 0 = false := by rw [hvv, cmp_lss hA]; exact decide_eq_false (by omega)
  simp (maxSteps := 10000000) only [cl]
  conv => cbv
  refine (natOfP hP R M (cnv .u64 (cnv .i64 (bin .and .u32 ci 8388607))) (by rw [hvv]; exact cnv_u64 hA (by omega)) (by omega)).callP rfl ?_
  rintro R1 _ hR1 ⟨aB, nB, cB, rfl, hrB, hcB⟩
  conv => cbv
  simp (maxSteps := 10000000) only [cl]
  conv => cbv
  refine callP_in (fz := []) hP hA Try.func58 rfl (by decide) rfl ok58 (by simp [labL, lab]) ?_
  conv => cbv
  refine ⟨[0, 1, 2, 3, 4, 5, 6, 8, 9, 10, 11, 7, 12, 13, 14, 15, 16, 17], [14, 17], mix hP, by kernel_rfl, ?_⟩
  conv => cbv
  refine (lshP hP R1 aB nB cB M (8 * (E - 3)) _ es hrB (hpos (by omega)) (by omega) (by omega)).callP rfl ?_
  rintro Rc _ hRc ⟨aA, nA, cA, rfl, hr, hcA⟩
  have hYv : M * 2 ^ (8 * (E - 3)) = Y := by rw [hY, pw8]
  rw [hYv] at hr
  conv => cbv
  refine ⟨⟨⟨rfl, trivial⟩, .refl _⟩, ?_⟩
  conv => cbv
  have hnA : nA ≤ 100000 := by
    have h1 := hr.len
    by_cases e : Y = 0
    · rw [e, cn0] at h1; simp at h1; omega
    · have h2 := (cn_len Y e).2
      have h3 := dl_lt Y
      rw [pw8] at h3
      rw [pw] at h2
      have := (Nat.pow_lt_pow_iff_right (by decide : 1 < 2)).1 (Nat.lt_of_le_of_lt h2 h3)
      omega
  refine bytesC hP Rc aA nA cA Y hr hcA hnA (by omega) ?_
  intro ab L zs hL2 hzs
  conv => cbv
  refine callP_in (fz := []) hP hA Try.func26 rfl (by decide) rfl ok26 (by simp [labL, lab]) ?_
  conv => cbv
  refine ⟨0, [], _, _, _, L, zs, .own _ 0 _ [] rfl rfl rfl rfl (by decide), .refl _, src_row (r := ⟨some ab, L, L, 5, 1, zs⟩) (List.mem_cons_self ..) (fun _ => rfl) (by show zs.length = _; rw [hzs, ints_len, List.length_reverse, hL2, Nat.mul_one]) (by show ∀ v ∈ zs, _; rw [hzs]; exact ints_one _ _), by omega, by omega, ?_⟩
  intro a9 n9 c9 z9 hn9 hz9 hs9
  conv => cbv
  refine callP_in (fz := []) hP hA Try.func28 rfl (by decide) rfl ok28 (by simp [labL, lab]) ?_
  conv => cbv
  have oA := ofN_ hA nA
  have s0 : cmp .lss 0 0 = false := by rw [cmp_lss hA]; rfl
  have s1 : cmp .lss 1 0 = false := by rw [cmp_lss hA]; rfl
  have wf8 : ∀ x ∈ TT, (Lit.int .u8 x).wf = true := fun x hx => by
    rw [hTT] at hx
    exact Ht.wf8 (dl_wf _ x (List.mem_reverse.1 hx))
  by_cases hn0 : nA = 0
  · refine br_t (by rw [oA, cmp_eql hA]; simp; omega) ?_
    conv => cbv
    simp (maxSteps := 10000000) only [s0]
    conv => cbv
    intro ρ R'' hle _ hpr
    exact ⟨a9, n9, c9, rfl, (hpr _ (List.mem_cons_self ..)).ri (by show n9 = _; rw [hn9, hTT, ← hYt, List.length_reverse]; omega) hs9 rfl (by show z9 = _; rw [hz9, hzs, hTT, ← hYt]; rfl) wf8, (hpr _ (List.mem_cons_self ..)).cap_ hs9⟩
  refine br_f (by rw [oA, cmp_eql hA]; simp; omega) ?_
  conv => cbv
  simp (maxSteps := 10000000) only [s1]
  conv => cbv
  intro ρ R'' hle _ hpr
  exact ⟨a9, n9, c9, rfl, (hpr _ (List.mem_cons_self ..)).ri (by show n9 = _; rw [hn9, hTT, ← hYt, List.length_reverse]; omega) hs9 rfl (by show z9 = _; rw [hz9, hzs, hTT, ← hYt]; rfl) wf8, (hpr _ (List.mem_cons_self ..)).cap_ hs9⟩




set_option maxRecDepth 100000 in
set_option maxHeartbeats 4000000 in
theorem law {P : Program} (hP : P = Try.prog) (R : RO) (b : Option Addr) (m c2 : Nat) (ys : List Int) (h2 : RI R .u8 b m ys) (hm : m ≤ 9223372036854775807) (hc : m ≤ c2) :
    RetP P 4 [.slice b m c2] R fun _ v => v = .bool true := by
  subst hP
  have hl := h2.len
  refine retP_vc (fz := []) Try.func4 rfl (by decide) rfl ok4 ?_
  intro P bin cmp cnv neg com bnot beq ofN toN at_ sub_ scmp cat sget ssz ssub elem fld_ hP hA
  conv => cbv
  have om := ofN_ hA m
  have nt : bnot true = false := by rw [bnot_ hA]; rfl
  have nf : bnot false = true := by rw [bnot_ hA]; rfl
  by_cases g1 : m ≤ 2147483647
  case neg =>
    refine br_t (by rw [om, cmp_gtr hA]; simp; omega) ?_
    conv => cbv
    intro ρ R'' _ _ _
    rfl
  refine br_f (by rw [om, cmp_gtr hA]; simp; omega) ?_
  conv => cbv
  refine callP_in (fz := []) hP hA Try.func11 rfl (by decide) rfl ok11 (by simp [labL, lab]) ?_
  conv => cbv
  by_cases g2 : m ≤ 250
  case neg =>
    have cg : cmp .leq (ofN m) 250 = false := by rw [om, cmp_leq hA]; simp; omega
    simp (maxSteps := 10000000) only [cg]
    conv => cbv
    simp (maxSteps := 10000000) only [nf]
    conv => cbv
    intro ρ R'' _ _ _
    rfl
  have cg : cmp .leq (ofN m) 250 = true := by rw [om, cmp_leq hA]; simp; omega
  simp (maxSteps := 10000000) only [cg]
  conv => cbv
  by_cases g0 : m = 0
  · have ce : cmp .eql (ofN m) 0 = true := by rw [om, cmp_eql hA]; simp; omega
    simp (maxSteps := 10000000) only [ce]
    conv => cbv
    simp (maxSteps := 10000000) only [nt]
    conv => cbv
    have hne : m ≠ 0 → ys.getD 0 0 ≠ 0 := fun h => absurd g0 h
    obtain ⟨X, hX⟩ : ∃ X, X = be ys := ⟨_, rfl⟩
    have hwf : ∀ x ∈ ys, 0 ≤ x ∧ x ≤ 255 := fun x hx => wf_u8 (h2.wf x hx)
    have hx : ys = (dl X).reverse := by
      rw [hX]
      refine be_dl hwf ?_
      cases ys with
      | nil => exact .inl rfl
      | cons y t => exact .inr (hne (by simp only [List.length_cons] at hl; omega))
    have hdL : (dl X).length = m := by rw [hl, hx, List.length_reverse]
    obtain ⟨CX, hCX⟩ : ∃ CX, CX = cmpt X := ⟨_, rfl⟩
    refine (compactI hP R b m c2 X ys h2 hc g2 hx CX hCX).callQ rfl ?_
    rintro _ ⟨ci, rfl, hci⟩
    conv => cbv
    refine (compactS hP R b m c2 X ys h2 hc g2 hx hne CX hCX).callQ rfl ?_
    rintro _ ⟨ci2, rfl, hci2⟩
    obtain rfl : ci = ci2 := by omega
    conv => cbv
    refine br_f (by rw [cmp_neq hA]; simp) ?_
    conv => cbv
    obtain ⟨TT, hTT⟩ : ∃ T, T = (dl (tgt X)).reverse := ⟨_, rfl⟩
    refine (targetI hP R X (by omega) ci CX hCX hci TT hTT).callP rfl ?_
    rintro R1 _ hR1 ⟨a, n, c, rfl, hri, hcap⟩
    conv => cbv
    have hln := hri.len
    have hnm : n = m := by rw [hln, hTT, List.length_reverse, tgt_len', hdL]
    have on := ofN_ hA n
    refine br_f (by rw [om, on, cmp_neq hA, hnm]; simp) ?_
    conv => cbv
    refine ⟨Int, fun x => ⟨[(6, .v (.int .i64 x)), (4, .v (.slice a n c)), (0, .v (.slice b m c2)), (3, .v (.int .u32 ci))], R1, [], 0, []⟩, fun k x => ∃ i : Nat, x = i ∧ i ≤ 2 ∧ k = 2 - i, ⟨2, 0, ⟨⟨rfl, rfl, rfl, rfl, trivial⟩, rfl, trivial, rfl, .refl _⟩, 0, rfl, by omega, rfl⟩, ?_⟩
    rintro k x ⟨i, hi, hi2, hk⟩
    conv => cbv
    by_cases hin : i < n ∧ i < 2
    case neg =>
      have fin : ∀ {Q : Prop}, (cmp .lss x (ofN n) = false ∨ (cmp .lss x (ofN n) = true ∧ cmp .lss x 2 = false)) := fun {Q} => by
        rw [on, cmp_lss hA, cmp_lss hA]
        by_cases h5 : i < n
        · exact .inr ⟨by simp; omega, by simp; omega⟩
        · exact .inl (by simp; omega)
      rcases fin (Q := True) with f1 | ⟨f1, f2⟩
      · simp (maxSteps := 10000000) only [f1]
        conv => cbv
        refine (compactI hP R1 a n c (tgt X) TT hri hcap (by omega) hTT CX (by rw [cmpt_tgt]; exact hCX)).callQ rfl ?_
        rintro _ ⟨ci3, rfl, hci3⟩
        obtain rfl : ci = ci3 := by omega
        conv => cbv
        have f9 : cmp .eql ci ci = true := by rw [cmp_eql hA]; simp
        simp (maxSteps := 10000000) only [f9]
        conv => cbv
        intro ρ R'' _ _ _
        rfl
      · simp (maxSteps := 10000000) only [f1]
        conv => cbv
        refine br_f f2 ?_
        conv => cbv
        refine (compactI hP R1 a n c (tgt X) TT hri hcap (by omega) hTT CX (by rw [cmpt_tgt]; exact hCX)).callQ rfl ?_
        rintro _ ⟨ci3, rfl, hci3⟩
        obtain rfl : ci = ci3 := by omega
        conv => cbv
        have f9 : cmp .eql ci ci = true := by rw [cmp_eql hA]; simp
        simp (maxSteps := 10000000) only [f9]
        conv => cbv
        intro ρ R'' _ _ _
        rfl
    have f1 : cmp .lss x (ofN n) = true := by rw [on, cmp_lss hA]; simp; omega
    simp (maxSteps := 10000000) only [f1]
    conv => cbv
    refine br_t (by rw [cmp_lss hA]; simp; omega) ?_
    conv => cbv
    refine ⟨[0, 1, 2, 3, 4, 5, 6, 7, 8], [], mix hP, by kernel_rfl, ?_⟩
    conv => cbv
    refine ix_ri hri on i hi hin.1 ?_
    refine ld_u8 hA hri (by omega) (by omega) ?_
    intro v1 hv1 _ _
    conv => cbv
    refine ix_ri h2 om i hi (by omega) ?_
    refine ld_u8 hA (h2.le hR1) (by omega) (by omega) ?_
    intro v2 hv2 _ _
    conv => cbv
    have hX0 : X ≠ 0 := fun e => by rw [e, dl0] at hdL; simp at hdL; omega
    have w1 : v1 = ((tgt X / 256 ^ (m - 1 - i) % 256 : Nat) : Int) := by
      have e1 : TT[i]? = some v1 := by rw [getD_get (by omega), hv1]; congr 2; omega
      rw [hTT, List.getElem?_reverse (by rw [tgt_len']; omega), tgt_len', hdL] at e1
      exact dl_get _ _ _ e1
    have w2 : v2 = ((X / 256 ^ (m - 1 - i) % 256 : Nat) : Int) := by
      have e1 : ys[i]? = some v2 := by rw [getD_get (by omega), hv2]; congr 2; omega
      rw [hx, List.getElem?_reverse (by omega), hdL] at e1
      exact dl_get _ _ _ e1
    have w3 := tgt_top hX0 i hin.2 (by omega)
    rw [hdL] at w3
    rw [w3, ← w2] at w1
    refine br_f (by rw [cmp_neq hA, w1]; simp) ?_
    conv => cbv
    exact ⟨2 - (i + 1), bin .add .i64 x 1, by omega, ⟨⟨rfl, rfl, rfl, rfl, trivial⟩, rfl, trivial, rfl, .refl _⟩, i + 1, by rw [hi, add_i64 hA (by omega)]; rfl, by omega, rfl⟩
  have ce : cmp .eql (ofN m) 0 = false := by rw [om, cmp_eql hA]; simp; omega
  simp (maxSteps := 10000000) only [ce]
  conv => cbv
  refine ix_ri h2 om 0 rfl (by omega) ?_
  refine ld_u8 hA h2 (by omega) (by omega) ?_
  intro d hd hd0 hd1
  conv => cbv
  by_cases gd : d = 0
  · have cd : cmp .neq d 0 = false := by rw [cmp_neq hA, gd]; rfl
    simp (maxSteps := 10000000) only [cd]
    conv => cbv
    simp (maxSteps := 10000000) only [nf]
    conv => cbv
    intro ρ R'' _ _ _
    rfl
  have cd : cmp .neq d 0 = true := by rw [cmp_neq hA]; exact bne_iff_ne.2 gd
  simp (maxSteps := 10000000) only [cd]
  conv => cbv
  simp (maxSteps := 10000000) only [nt]
  conv => cbv
  have hne : m ≠ 0 → ys.getD 0 0 ≠ 0 := fun _ e => gd (by rw [hd]; exact e)
  obtain ⟨X, hX⟩ : ∃ X, X = be ys := ⟨_, rfl⟩
  have hwf : ∀ x ∈ ys, 0 ≤ x ∧ x ≤ 255 := fun x hx => wf_u8 (h2.wf x hx)
  have hx : ys = (dl X).reverse := by
    rw [hX]
    refine be_dl hwf ?_
    cases ys with
    | nil => exact .inl rfl
    | cons y t => exact .inr (hne (by simp only [List.length_cons] at hl; omega))
  have hdL : (dl X).length = m := by rw [hl, hx, List.length_reverse]
  obtain ⟨CX, hCX⟩ : ∃ CX, CX = cmpt X := ⟨_, rfl⟩
  refine (compactI hP R b m c2 X ys h2 hc g2 hx CX hCX).callQ rfl ?_
  rintro _ ⟨ci, rfl, hci⟩
  conv => cbv
  refine (compactS hP R b m c2 X ys h2 hc g2 hx hne CX hCX).callQ rfl ?_
  rintro _ ⟨ci2, rfl, hci2⟩
  obtain rfl : ci = ci2 := by omega
  conv => cbv
  refine br_f (by rw [cmp_neq hA]; simp) ?_
  conv => cbv
  obtain ⟨TT, hTT⟩ : ∃ T, T = (dl (tgt X)).reverse := ⟨_, rfl⟩
  refine (targetI hP R X (by omega) ci CX hCX hci TT hTT).callP rfl ?_
  rintro R1 _ hR1 ⟨a, n, c, rfl, hri, hcap⟩
  conv => cbv
  have hln := hri.len
  have hnm : n = m := by rw [hln, hTT, List.length_reverse, tgt_len', hdL]
  have on := ofN_ hA n
  refine br_f (by rw [om, on, cmp_neq hA, hnm]; simp) ?_
  conv => cbv
  refine ⟨Int, fun x => ⟨[(6, .v (.int .i64 x)), (4, .v (.slice a n c)), (0, .v (.slice b m c2)), (3, .v (.int .u32 ci))], R1, [], 0, []⟩, fun k x => ∃ i : Nat, x = i ∧ i ≤ 2 ∧ k = 2 - i, ⟨2, 0, ⟨⟨rfl, rfl, rfl, rfl, trivial⟩, rfl, trivial, rfl, .refl _⟩, 0, rfl, by omega, rfl⟩, ?_⟩
  rintro k x ⟨i, hi, hi2, hk⟩
  conv => cbv
  by_cases hin : i < n ∧ i < 2
  case neg =>
    have fin : ∀ {Q : Prop}, (cmp .lss x (ofN n) = false ∨ (cmp .lss x (ofN n) = true ∧ cmp .lss x 2 = false)) := fun {Q} => by
      rw [on, cmp_lss hA, cmp_lss hA]
      by_cases h5 : i < n
      · exact .inr ⟨by simp; omega, by simp; omega⟩
      · exact .inl (by simp; omega)
    rcases fin (Q := True) with f1 | ⟨f1, f2⟩
    · simp (maxSteps := 10000000) only [f1]
      conv => cbv
      refine (compactI hP R1 a n c (tgt X) TT hri hcap (by omega) hTT CX (by rw [cmpt_tgt]; exact hCX)).callQ rfl ?_
      rintro _ ⟨ci3, rfl, hci3⟩
      obtain rfl : ci = ci3 := by omega
      conv => cbv
      have f9 : cmp .eql ci ci = true := by rw [cmp_eql hA]; simp
      simp (maxSteps := 10000000) only [f9]
      conv => cbv
      intro ρ R'' _ _ _
      rfl
    · simp (maxSteps := 10000000) only [f1]
      conv => cbv
      refine br_f f2 ?_
      conv => cbv
      refine (compactI hP R1 a n c (tgt X) TT hri hcap (by omega) hTT CX (by rw [cmpt_tgt]; exact hCX)).callQ rfl ?_
      rintro _ ⟨ci3, rfl, hci3⟩
      obtain rfl : ci = ci3 := by omega
      conv => cbv
      have f9 : cmp .eql ci ci = true := by rw [cmp_eql hA]; simp
      simp (maxSteps := 10000000) only [f9]
      conv => cbv
      intro ρ R'' _ _ _
      rfl
  have f1 : cmp .lss x (ofN n) = true := by rw [on, cmp_lss hA]; simp; omega
  simp (maxSteps := 10000000) only [f1]
  conv => cbv
  refine br_t (by rw [cmp_lss hA]; simp; omega) ?_
  conv => cbv
  refine ⟨[0, 1, 2, 3, 4, 5, 6, 7, 8], [], mix hP, by kernel_rfl, ?_⟩
  conv => cbv
  refine ix_ri hri on i hi hin.1 ?_
  refine ld_u8 hA hri (by omega) (by omega) ?_
  intro v1 hv1 _ _
  conv => cbv
  refine ix_ri h2 om i hi (by omega) ?_
  refine ld_u8 hA (h2.le hR1) (by omega) (by omega) ?_
  intro v2 hv2 _ _
  conv => cbv
  have hX0 : X ≠ 0 := fun e => by rw [e, dl0] at hdL; simp at hdL; omega
  have w1 : v1 = ((tgt X / 256 ^ (m - 1 - i) % 256 : Nat) : Int) := by
    have e1 : TT[i]? = some v1 := by rw [getD_get (by omega), hv1]; congr 2; omega
    rw [hTT, List.getElem?_reverse (by rw [tgt_len']; omega), tgt_len', hdL] at e1
    exact dl_get _ _ _ e1
  have w2 : v2 = ((X / 256 ^ (m - 1 - i) % 256 : Nat) : Int) := by
    have e1 : ys[i]? = some v2 := by rw [getD_get (by omega), hv2]; congr 2; omega
    rw [hx, List.getElem?_reverse (by omega), hdL] at e1
    exact dl_get _ _ _ e1
  have w3 := tgt_top hX0 i hin.2 (by omega)
  rw [hdL] at w3
  rw [w3, ← w2] at w1
  refine br_f (by rw [cmp_neq hA, w1]; simp) ?_
  conv => cbv
  exact ⟨2 - (i + 1), bin .add .i64 x 1, by omega, ⟨⟨rfl, rfl, rfl, rfl, trivial⟩, rfl, trivial, rfl, .refl _⟩, i + 1, by rw [hi, add_i64 hA (by omega)]; rfl, by omega, rfl⟩
end Go.Proofs.Ytnlpjppjhikooaa.Co
