/- The checks of a witness: the package's, the thin package's. -/
import Derived.Test.YtbakdoienfmacaaTku
set_option linter.unusedSimpArgs false
set_option linter.unusedVariables false
namespace Go.Proofs.Ytbakdoienfmacaa.Tk
open Go Go.Se Go.Proofs Go.Proofs.Ytbakdoienfmacaa.Tytw


/-- A push that is not as short as can be. -/
def Uncanon (op : Int) (d : List Int) : Prop := (1 ≤ op ∧ op ≤ 75 ∧ d.length = 1 ∧ d.getD 0 0 ≤ 16) ∨ (op = 76 ∧ d.length < 76) ∨ (op = 77 ∧ d.length ≤ 255) ∨ (op = 78 ∧ d.length ≤ 65535)



set_option maxRecDepth 100000 in
theorem canonP {P : Program} (hP : P = Try.prog) (R : RO) (op : Int) (h0 : 0 ≤ op) (h1 : op ≤ 255) (a : Option Addr) (n c : Nat) (xs : List Int) (h : RI R .u8 a n xs) (hn : n ≤ 100000) :
    RetP P 68 [.int .u8 op, .slice a n c] R fun _ v => ∃ r, v = .bool r ∧ (r = true ↔ ¬ Uncanon op xs) := by
  subst hP
  have hl := h.len
  refine retP_vc (fz := []) Try.func68 rfl (by decide) rfl ok68 ?_
  intro P bin cmp cnv neg com bnot beq ofN toN at_ sub_ scmp cat sget ssz ssub elem fld_ hP hA
  conv => cbv
  have o := ofN_ hA n
  by_cases g96 : op > 96
  · refine br_t (by rw [cmp_gtr hA]; simp; omega) ?_
    conv => cbv
    intro ρ R'' _ _ _
    refine ⟨_, rfl, by unfold Uncanon; simp; omega⟩
  refine br_f (by rw [cmp_gtr hA]; simp; omega) ?_
  conv => cbv
  by_cases g76 : op < 76
  case neg =>
    have q1 : cmp .lss op 76 = false := by rw [cmp_lss hA]; simp; omega
    simp only [q1]
    conv => cbv
    by_cases g6 : op = 76
    · have q6 : cmp .eql op 76 = true := by rw [cmp_eql hA]; simp; omega
      simp only [q6]
      conv => cbv
      by_cases l6 : n < 76
      · refine br_t (by rw [o, cmp_lss hA]; simp; omega) ?_
        conv => cbv
        intro ρ R'' _ _ _
        refine ⟨_, rfl, by unfold Uncanon; simp; omega⟩
      refine br_f (by rw [o, cmp_lss hA]; simp; omega) ?_
      conv => cbv
      have q7 : cmp .eql op 77 = false := by rw [cmp_eql hA]; simp; omega
      have q8 : cmp .eql op 78 = false := by rw [cmp_eql hA]; simp; omega
      simp only [q7]
      conv => cbv
      simp only [q8]
      conv => cbv
      intro ρ R'' _ _ _
      refine ⟨_, rfl, by unfold Uncanon; simp; omega⟩
    have q6 : cmp .eql op 76 = false := by rw [cmp_eql hA]; simp; omega
    simp only [q6]
    conv => cbv
    by_cases g7 : op = 77
    · have q7 : cmp .eql op 77 = true := by rw [cmp_eql hA]; simp; omega
      simp only [q7]
      conv => cbv
      by_cases l7 : n ≤ 255
      · refine br_t (by rw [o, cmp_leq hA]; simp; omega) ?_
        conv => cbv
        intro ρ R'' _ _ _
        refine ⟨_, rfl, by unfold Uncanon; simp; omega⟩
      refine br_f (by rw [o, cmp_leq hA]; simp; omega) ?_
      conv => cbv
      have q8 : cmp .eql op 78 = false := by rw [cmp_eql hA]; simp; omega
      simp only [q8]
      conv => cbv
      intro ρ R'' _ _ _
      refine ⟨_, rfl, by unfold Uncanon; simp; omega⟩
    have q7 : cmp .eql op 77 = false := by rw [cmp_eql hA]; simp; omega
    simp only [q7]
    conv => cbv
    by_cases g8 : op = 78
    · have q8 : cmp .eql op 78 = true := by rw [cmp_eql hA]; simp; omega
      simp only [q8]
      conv => cbv
      by_cases l8 : n ≤ 65535
      · refine br_t (by rw [o, cmp_leq hA]; simp; omega) ?_
        conv => cbv
        intro ρ R'' _ _ _
        refine ⟨_, rfl, by unfold Uncanon; simp; omega⟩
      refine br_f (by rw [o, cmp_leq hA]; simp; omega) ?_
      conv => cbv
      intro ρ R'' _ _ _
      refine ⟨_, rfl, by unfold Uncanon; simp; omega⟩
    have q8 : cmp .eql op 78 = false := by rw [cmp_eql hA]; simp; omega
    simp only [q8]
    conv => cbv
    intro ρ R'' _ _ _
    refine ⟨_, rfl, by unfold Uncanon; simp; omega⟩
  have q1 : cmp .lss op 76 = true := by rw [cmp_lss hA]; simp; omega
  simp only [q1]
  conv => cbv
  by_cases g0 : op > 0
  case neg =>
    have q2 : cmp .gtr op 0 = false := by rw [cmp_gtr hA]; simp; omega
    simp only [q2]
    conv => cbv
    by_cases g6 : op = 76
    · have q6 : cmp .eql op 76 = true := by rw [cmp_eql hA]; simp; omega
      simp only [q6]
      conv => cbv
      by_cases l6 : n < 76
      · refine br_t (by rw [o, cmp_lss hA]; simp; omega) ?_
        conv => cbv
        intro ρ R'' _ _ _
        refine ⟨_, rfl, by unfold Uncanon; simp; omega⟩
      refine br_f (by rw [o, cmp_lss hA]; simp; omega) ?_
      conv => cbv
      have q7 : cmp .eql op 77 = false := by rw [cmp_eql hA]; simp; omega
      have q8 : cmp .eql op 78 = false := by rw [cmp_eql hA]; simp; omega
      simp only [q7]
      conv => cbv
      simp only [q8]
      conv => cbv
      intro ρ R'' _ _ _
      refine ⟨_, rfl, by unfold Uncanon; simp; omega⟩
    have q6 : cmp .eql op 76 = false := by rw [cmp_eql hA]; simp; omega
    simp only [q6]
    conv => cbv
    by_cases g7 : op = 77
    · have q7 : cmp .eql op 77 = true := by rw [cmp_eql hA]; simp; omega
      simp only [q7]
      conv => cbv
      by_cases l7 : n ≤ 255
      · refine br_t (by rw [o, cmp_leq hA]; simp; omega) ?_
        conv => cbv
        intro ρ R'' _ _ _
        refine ⟨_, rfl, by unfold Uncanon; simp; omega⟩
      refine br_f (by rw [o, cmp_leq hA]; simp; omega) ?_
      conv => cbv
      have q8 : cmp .eql op 78 = false := by rw [cmp_eql hA]; simp; omega
      simp only [q8]
      conv => cbv
      intro ρ R'' _ _ _
      refine ⟨_, rfl, by unfold Uncanon; simp; omega⟩
    have q7 : cmp .eql op 77 = false := by rw [cmp_eql hA]; simp; omega
    simp only [q7]
    conv => cbv
    by_cases g8 : op = 78
    · have q8 : cmp .eql op 78 = true := by rw [cmp_eql hA]; simp; omega
      simp only [q8]
      conv => cbv
      by_cases l8 : n ≤ 65535
      · refine br_t (by rw [o, cmp_leq hA]; simp; omega) ?_
        conv => cbv
        intro ρ R'' _ _ _
        refine ⟨_, rfl, by unfold Uncanon; simp; omega⟩
      refine br_f (by rw [o, cmp_leq hA]; simp; omega) ?_
      conv => cbv
      intro ρ R'' _ _ _
      refine ⟨_, rfl, by unfold Uncanon; simp; omega⟩
    have q8 : cmp .eql op 78 = false := by rw [cmp_eql hA]; simp; omega
    simp only [q8]
    conv => cbv
    intro ρ R'' _ _ _
    refine ⟨_, rfl, by unfold Uncanon; simp; omega⟩
  have q2 : cmp .gtr op 0 = true := by rw [cmp_gtr hA]; simp; omega
  simp only [q2]
  conv => cbv
  by_cases l1 : n = 1
  case neg =>
    have q3 : cmp .eql (ofN n) 1 = false := by rw [o, cmp_eql hA]; simp; omega
    simp only [q3]
    conv => cbv
    by_cases g6 : op = 76
    · have q6 : cmp .eql op 76 = true := by rw [cmp_eql hA]; simp; omega
      simp only [q6]
      conv => cbv
      by_cases l6 : n < 76
      · refine br_t (by rw [o, cmp_lss hA]; simp; omega) ?_
        conv => cbv
        intro ρ R'' _ _ _
        refine ⟨_, rfl, by unfold Uncanon; simp; omega⟩
      refine br_f (by rw [o, cmp_lss hA]; simp; omega) ?_
      conv => cbv
      have q7 : cmp .eql op 77 = false := by rw [cmp_eql hA]; simp; omega
      have q8 : cmp .eql op 78 = false := by rw [cmp_eql hA]; simp; omega
      simp only [q7]
      conv => cbv
      simp only [q8]
      conv => cbv
      intro ρ R'' _ _ _
      refine ⟨_, rfl, by unfold Uncanon; simp; omega⟩
    have q6 : cmp .eql op 76 = false := by rw [cmp_eql hA]; simp; omega
    simp only [q6]
    conv => cbv
    by_cases g7 : op = 77
    · have q7 : cmp .eql op 77 = true := by rw [cmp_eql hA]; simp; omega
      simp only [q7]
      conv => cbv
      by_cases l7 : n ≤ 255
      · refine br_t (by rw [o, cmp_leq hA]; simp; omega) ?_
        conv => cbv
        intro ρ R'' _ _ _
        refine ⟨_, rfl, by unfold Uncanon; simp; omega⟩
      refine br_f (by rw [o, cmp_leq hA]; simp; omega) ?_
      conv => cbv
      have q8 : cmp .eql op 78 = false := by rw [cmp_eql hA]; simp; omega
      simp only [q8]
      conv => cbv
      intro ρ R'' _ _ _
      refine ⟨_, rfl, by unfold Uncanon; simp; omega⟩
    have q7 : cmp .eql op 77 = false := by rw [cmp_eql hA]; simp; omega
    simp only [q7]
    conv => cbv
    by_cases g8 : op = 78
    · have q8 : cmp .eql op 78 = true := by rw [cmp_eql hA]; simp; omega
      simp only [q8]
      conv => cbv
      by_cases l8 : n ≤ 65535
      · refine br_t (by rw [o, cmp_leq hA]; simp; omega) ?_
        conv => cbv
        intro ρ R'' _ _ _
        refine ⟨_, rfl, by unfold Uncanon; simp; omega⟩
      refine br_f (by rw [o, cmp_leq hA]; simp; omega) ?_
      conv => cbv
      intro ρ R'' _ _ _
      refine ⟨_, rfl, by unfold Uncanon; simp; omega⟩
    have q8 : cmp .eql op 78 = false := by rw [cmp_eql hA]; simp; omega
    simp only [q8]
    conv => cbv
    intro ρ R'' _ _ _
    refine ⟨_, rfl, by unfold Uncanon; simp; omega⟩
  have q3 : cmp .eql (ofN n) 1 = true := by rw [o, cmp_eql hA]; simp; omega
  simp only [q3]
  conv => cbv
  refine ix_u8 hA h 0 rfl (by omega) ?_
  refine ld_u8 hA h (by omega) (by omega) ?_
  intro b hb b0 b1
  replace hb : b = xs.getD 0 0 := hb
  conv => cbv
  by_cases g16 : b ≤ 16
  · refine br_t (by rw [cmp_leq hA]; simp; omega) ?_
    conv => cbv
    intro ρ R'' _ _ _
    refine ⟨_, rfl, by simp, fun hx => absurd (.inl ⟨by omega, by omega, by omega, by omega⟩) hx⟩
  refine br_f (by rw [cmp_leq hA]; simp; omega) ?_
  conv => cbv
  have q6 : cmp .eql op 76 = false := by rw [cmp_eql hA]; simp; omega
  have q7 : cmp .eql op 77 = false := by rw [cmp_eql hA]; simp; omega
  have q8 : cmp .eql op 78 = false := by rw [cmp_eql hA]; simp; omega
  simp only [q6]
  conv => cbv
  simp only [q7]
  conv => cbv
  simp only [q8]
  conv => cbv
  intro ρ R'' _ _ _
  refine ⟨_, rfl, fun _ hx => ?_, fun _ => rfl⟩
  rcases hx with hx | hx | hx | hx
  · omega
  · omega
  · omega
  · omega


/-- Two tokens that begin a program. -/
theorem prog_two {xs : List Int} {t0 t1 : Tok} {p : Nat} (h : Toks xs [t0, t1] p) (hx : IsProg xs) : p = xs.length ∧ t0.op = xs.getD 0 0 ∧ t1.op = xs.getD 1 0 ∧ t1.data.length = xs.length - 2 := by
  obtain ⟨r, hr⟩ := h.begins hx.toks (stuck_end rfl)
  simp only [List.cons_append, List.nil_append, List.cons.injEq] at hr
  obtain ⟨rfl, rfl, hr⟩ := hr
  refine ⟨(h.place hx.toks).symm, rfl, rfl, by simp⟩


set_option maxRecDepth 100000 in
set_option maxHeartbeats 4000000 in
theorem extractP {P : Program} (hP : P = Try.prog) (R : RO) (a : Option Addr) (n c : Nat) (xs : List Int) (h : RI R .u8 a n xs) (hn : n ≤ 100000) (hc : n ≤ c) :
    RetP P 55 [.slice a n c] R fun _ v => ∃ k a2 n2 c2 b, v = .tuple #[.int .i64 k, .slice a2 n2 c2, .bool b] ∧ ((b = true ∧ IsProg xs ∧ smallV (xs.getD 0 0) = some k ∧ n2 = xs.length - 2) ∨ (b = false ∧ ¬ IsProg xs)) := by
  subst hP
  have hl := h.len
  refine retP_vc (fz := []) Try.func55 rfl (by decide) rfl ok55 ?_
  intro P bin cmp cnv neg com bnot beq ofN toN at_ sub_ scmp cat sget ssz ssub elem fld_ hP hA
  conv => cbv
  have hOp' : OpSpec P := by rw [hP]; exact opSpec
  have o := ofN_ hA n
  have nt : bnot true = false := by rw [bnot_ hA]; rfl
  have nf : bnot false = true := by rw [bnot_ hA]; rfl
  by_cases h4 : n < 4
  · have q3 : cmp .lss (ofN n) 4 = true := by rw [o, cmp_lss hA]; simp; omega
    simp only [q3]
    conv => cbv
    intro ρ R'' _ _ _
    refine ⟨_, _, _, _, _, rfl, .inr ⟨rfl, fun hx => ?_⟩⟩
    have := hx.1
    omega
  have q3 : cmp .lss (ofN n) 4 = false := by rw [o, cmp_lss hA]; simp; omega
  simp only [q3]
  conv => cbv
  by_cases h42 : n > 42
  · refine br_t (by rw [o, cmp_gtr hA]; simp; omega) ?_
    conv => cbv
    intro ρ R'' _ _ _
    refine ⟨_, _, _, _, _, rfl, .inr ⟨rfl, fun hx => ?_⟩⟩
    have := hx.2.1
    omega
  refine br_f (by rw [o, cmp_gtr hA]; simp; omega) ?_
  conv => cbv
  refine callP_in (fz := []) hP hA Try.func39 rfl (by decide) rfl ok39 (by simp [labL, lab]) ?_
  conv => cbv
  refine br_f (by rw [cmp_neq hA]; rfl) ?_
  conv => cbv
  refine CallP.lend (next hP hOp' R a n c xs h hn hc 0 0 (-1) rfl (by omega) ⟨by omega, by omega⟩ (.pointer none) (.slice none 0 0) (fun cs h => by cases h) (fun cs h => by cases h)) rfl rfl ?_
  intro R2 hp' nx' rs' r hR2 hout
  rcases hout () with ⟨op, d, k', ad, s, a7, n7, c7, off', hx, hst, rfl, ho, hf, hcc, h7, hiff, -⟩ | ⟨off', pos', op, d, er, rfl, hoe, hf, hend⟩
  case inr =>
    refine ⟨_, _, _, hf, rfl, rfl, ?_⟩
    conv => cbv
    simp only [nf]
    conv => cbv
    intro ρ R'' _ _ _
    refine ⟨_, _, _, _, _, rfl, .inr ⟨rfl, fun hx => ?_⟩⟩
    rcases hend with ⟨hpe, _⟩ | ⟨_, hst, _⟩
    · omega
    · obtain ⟨x1, x2, x3, x4⟩ := hx
      have := small_not x3
      rw [drop_get (by omega), stepT, if_neg (by omega), if_neg (by omega)] at hst
      cases hst
  refine ⟨_, _, _, hf, rfl, rfl, ?_⟩
  conv => cbv
  simp only [nt]
  conv => cbv
  have hto := Toks.nil.snoc hx hst
  have hop := wf_u8 (h.wf op (List.mem_of_getElem? hx))
  have hx0 := (getD_some hx).2
  refine callP_in (fz := []) hP hA Try.func50 rfl (by decide) rfl ok50 (by simp [labL, lab]) ?_
  conv => cbv
  refine ld_at hA hcc 0 rfl ?_
  conv => cbv
  refine (isSmall hP R2 op hop.1 hop.2).callQ rfl ?_
  rintro _ ⟨bs, rfl, hbs⟩
  conv => cbv
  cases hs0 : smallV op with
  | none =>
    rw [hs0] at hbs
    subst hbs
    simp only [Option.isSome]
    refine br_t nf ?_
    conv => cbv
    intro ρ R'' _ _ _
    refine ⟨_, _, _, _, _, rfl, .inr ⟨rfl, fun hx => ?_⟩⟩
    have := hx.2.2.1
    rw [hx0, hs0] at this
    exact this rfl
  | some s0 =>
  rw [hs0] at hbs
  subst hbs
  simp only [Option.isSome]
  refine br_f nt ?_
  conv => cbv
  have hk1 : d = [] ∧ k' = 1 := by
    rw [drop_get (by omega), hx0] at hst
    exact step_small (by rw [hs0]; simp) hst
  obtain ⟨rfl, rfl⟩ := hk1
  refine callP_in (fz := []) hP hA Try.func50 rfl (by decide) rfl ok50 (by simp [labL, lab]) ?_
  conv => cbv
  refine ld_at hA hcc 0 rfl ?_
  conv => cbv
  refine (asSmall hP R2 op s0 hop.1 hop.2 hs0).callQ rfl ?_
  rintro _ ⟨s0', rfl, rfl⟩
  conv => cbv
  refine CallP.lend (next hP hOp' R2 a n c xs (h.le hR2) hn hc (0 + 1) off' (-1 + 1) ho (by omega) ⟨by omega, by omega⟩ _ _ (fun cs h => by cases h) (fun cs h => by cases h)) rfl rfl ?_
  intro R3 hp3 nx3 rs3 r3 hR3 hout3
  rcases hout3 () with ⟨op2, d2, k2, ad2, s2, a9, n9, c9, off2, hx2, hst2, rfl, ho2, hf2, hcc2, h9, hiff2, -⟩ | ⟨off2, pos2, op2, d2, er, rfl, hoe, hf2, hend⟩
  case inr =>
    refine ⟨_, _, _, hf2, rfl, rfl, ?_⟩
    conv => cbv
    simp only [nf]
    conv => cbv
    intro ρ R'' _ _ _
    refine ⟨_, _, _, _, _, rfl, .inr ⟨rfl, fun hx => ?_⟩⟩
    have ht := hx.toks
    obtain ⟨k1, a1, a2, a3, a4⟩ := Toks.unsnoc (l := [⟨xs.getD 0 0, [], 0⟩]) ht
    rcases hend with ⟨hpe, _⟩ | ⟨_, hst, _⟩
    · omega
    · rw [show ((⟨xs.getD 1 0, xs.drop 2, 1⟩ : Tok).pos) = 0 + 1 from rfl, hst] at a3
      cases a3
  refine ⟨_, _, _, hf2, rfl, rfl, ?_⟩
  conv => cbv
  simp only [nt]
  conv => cbv
  have hto2 := hto.snoc hx2 hst2
  have hop2 := wf_u8 (h.wf op2 (List.mem_of_getElem? hx2))
  have hle2 := hto2.le
  have hks := stepT_le hst2
  have h9l := h9.len
  have hpr := fun hx => prog_two hto2 hx
  have hdl : d2.length ≤ xs.length := by simp at hks; omega
  clear hcc
  have hcc := hcc2
  refine callP_in (fz := []) hP hA Try.func50 rfl (by decide) rfl ok50 (by simp [labL, lab]) ?_
  conv => cbv
  refine ld_at hA hcc 0 rfl ?_
  conv => cbv
  refine callP_in (fz := []) hP hA Try.func42 rfl (by decide) rfl ok42 (by simp [labL, lab]) ?_
  conv => cbv
  refine (canonP hP R3 op2 hop2.1 hop2.2 a9 n9 c9 d2 h9 (by omega)).callQ rfl ?_
  rintro _ ⟨bc, rfl, hbc⟩
  conv => cbv
  have stp := hst2
  rw [drop_get (by omega), (getD_some hx2).2, stepT] at stp
  cases bc with
  | false =>
    refine br_t nf ?_
    conv => cbv
    intro ρ R'' _ _ _
    refine ⟨_, _, _, _, _, rfl, .inr ⟨rfl, fun hx => ?_⟩⟩
    have hun : Uncanon op2 d2 := Classical.byContradiction fun hu => by have := hbc.2 hu; cases this
    obtain ⟨e1, e2, e3, e4⟩ := hpr hx
    obtain ⟨x1, x2, x3, x4⟩ := hx
    simp only at e3 e4
    rcases hun with hu | hu | hu | hu <;> omega
  | true =>
  have hca := hbc.1 rfl
  refine br_f nt ?_
  conv => cbv
  refine callP_in (fz := []) hP hA Try.func42 rfl (by decide) rfl ok42 (by simp [labL, lab]) ?_
  conv => cbv
  refine callP_in (fz := []) hP hA Try.func53 rfl (by decide) rfl ok53 (by simp [labL, lab]) ?_
  conv => cbv
  refine ⟨[0, 1, 2, 3, 4, 5, 6, 7, 8, 9, 10, 11, 12, 13, 14, 15, 16, 17, 18], [], mix hP, by kernel_rfl, ?_⟩
  conv => cbv
  simp only [nt]
  conv => cbv
  have en : cnv .i32 (ofN n) = n := by rw [o]; exact cnv_i32 hA (by omega)
  by_cases hend : 0 + 1 + k2 = xs.length
  case neg =>
    have q9 : cmp .geq off2 (cnv .i32 (ofN n)) = false := by rw [en, cmp_geq hA]; simp; omega
    simp only [q9]
    conv => cbv
    intro ρ R'' _ _ _
    refine ⟨_, _, _, _, _, rfl, .inr ⟨rfl, fun hx => ?_⟩⟩
    have := (hpr hx).1
    omega
  have q9 : cmp .geq off2 (cnv .i32 (ofN n)) = true := by rw [en, cmp_geq hA]; simp; omega
  simp only [q9]
  conv => cbv
  refine callP_in (fz := []) hP hA Try.func44 rfl (by decide) rfl ok44 (by simp [labL, lab]) ?_
  conv => cbv
  conv => cbv
  intro ρ R'' _ _ _
  have h240 : 2 ≤ op2 ∧ op2 ≤ 40 := by
    unfold Uncanon at hca
    split at stp
    · split at stp
      · cases stp
      · simp only [Option.some.injEq, Prod.mk.injEq] at stp
        omega
    split at stp
    · rename_i hz1 hz2
      have hww : (op2 = 76 ∧ width op2 = 1) ∨ (op2 = 77 ∧ width op2 = 2) ∨ (op2 = 78 ∧ width op2 = 4) := by
        unfold width
        by_cases z1 : op2 = 76
        · exact .inl ⟨z1, if_pos z1⟩
        by_cases z2 : op2 = 77
        · exact .inr (.inl ⟨z2, by rw [if_neg z1, if_pos z2]⟩)
        · exact .inr (.inr ⟨by omega, by rw [if_neg z1, if_neg z2]⟩)
      split at stp
      · cases stp
      split at stp
      · cases stp
      · simp only [Option.some.injEq, Prod.mk.injEq] at stp
        have e := congrArg List.length stp.1
        simp only [List.length_take, List.length_drop] at e
        have hle := stp.2
        exfalso
        omega
    · simp only [Option.some.injEq, Prod.mk.injEq] at stp
      omega
  rw [hend] at hto2
  have hpp : IsProg xs := prog_of (t0 := ⟨op, [], 0⟩) (t1 := ⟨op2, d2, 0 + 1⟩) hto2 (by show smallV op ≠ none; rw [hs0]; simp) h240 (by omega) (by omega)
  refine ⟨_, _, _, _, _, rfl, .inl ⟨rfl, hpp, by rw [hx0]; exact hs0, ?_⟩⟩
  have := (hpr hpp).2.2.2
  simp only at this
  omega

set_option maxRecDepth 100000 in
theorem isProgP {P : Program} (hP : P = Try.prog) (R : RO) (a : Option Addr) (n c : Nat) (xs : List Int) (h : RI R .u8 a n xs) (hn : n ≤ 100000) (hc : n ≤ c) :
    RetP P 30 [.slice a n c] R fun _ v => ∃ r, v = .bool r ∧ (r = true ↔ IsProg xs) := by
  subst hP
  refine retP_vc (fz := []) Try.func30 rfl (by decide) rfl ok30 ?_
  intro P bin cmp cnv neg com bnot beq ofN toN at_ sub_ scmp cat sget ssz ssub elem fld_ hP hA
  conv => cbv
  refine (extractP hP R a n c xs h hn hc).callQ rfl ?_
  rintro _ ⟨k, a2, n2, c2, b, rfl, hb⟩
  conv => cbv
  intro ρ R'' _ _ _
  rcases hb with ⟨rfl, hb, _⟩ | ⟨rfl, hb⟩
  · exact ⟨_, rfl, fun _ => hb, fun _ => rfl⟩
  · exact ⟨_, rfl, by simp, fun hx => absurd hx hb⟩

set_option maxRecDepth 100000 in
theorem progSigOpsP {P : Program} (hP : P = Try.prog) (R : RO) (a : Option Addr) (n c : Nat) (xs : List Int) (h : RI R .u8 a n xs) (hn : n ≤ 100000) (hc : n ≤ c) (hpr : IsProg xs) (w : Option Addr) (m d : Nat) (wit : List (List Int)) (hw : LAt R 1 BAt w m d wit) (hwl : ∀ x ∈ wit, x.length ≤ 100000) (hwm : m ≤ 1000000) :
    RetP P 31 [.slice a n c, .slice w m d] R fun _ v => ∃ k, v = .int .i64 k ∧ PSO xs wit k := by
  subst hP
  have hl := h.len
  have wl := hw.len
  refine retP_vc (fz := []) Try.func31 rfl (by decide) rfl ok31 ?_
  intro P bin cmp cnv neg com bnot beq ofN toN at_ sub_ scmp cat sget ssz ssub elem fld_ hP hA
  conv => cbv
  have o := ofN_ hA m
  have nt : bnot true = false := by rw [bnot_ hA]; rfl
  refine callP_in (fz := []) hP hA Try.func56 rfl (by decide) rfl ok56 (by simp [labL, lab]) ?_
  conv => cbv
  refine (extractP hP R a n c xs h hn hc).callQ rfl ?_
  rintro _ ⟨k, a2, n2, c2, b, rfl, hb⟩
  conv => cbv
  rcases hb with ⟨rfl, _, hk, hn2⟩ | ⟨rfl, hb⟩
  case inr => exact absurd hpr hb
  refine br_f nt ?_
  conv => cbv
  refine br_f nt ?_
  conv => cbv
  have o2 := ofN_ hA n2
  obtain ⟨x1, x2, x3, x4⟩ := hpr
  have hk0 : k = 0 ↔ xs.getD 0 0 = 0 := by
    unfold smallV at hk
    split at hk
    · cases hk; exact ⟨fun _ => by assumption, fun _ => rfl⟩
    split at hk
    · cases hk; omega
    · cases hk
  by_cases g0 : k = 0
  case neg =>
    have q0 : cmp .eql k 0 = false := by rw [cmp_eql hA]; simp; omega
    simp only [q0]
    conv => cbv
    refine br_of (fun _ => ?_) (fun _ => ?_)
    · conv => cbv
      intro ρ R'' _ _ _
      exact ⟨_, rfl, .inr (.inr ⟨fun hx => g0 (hk0.2 hx.2.1), .inl fun hx => g0 (hk0.2 hx.2.1), rfl⟩)⟩
    · conv => cbv
      intro ρ R'' _ _ _
      exact ⟨_, rfl, .inr (.inr ⟨fun hx => g0 (hk0.2 hx.2.1), .inl fun hx => g0 (hk0.2 hx.2.1), rfl⟩)⟩
  have hz := hk0.1 g0
  have q0 : cmp .eql k 0 = true := by rw [cmp_eql hA]; simp; omega
  simp only [q0]
  conv => cbv
  by_cases g20 : n2 = 20
  · refine br_t (by rw [o2, cmp_eql hA]; simp; omega) ?_
    conv => cbv
    intro ρ R'' _ _ _
    exact ⟨_, rfl, .inl ⟨⟨by omega, hz, by omega⟩, rfl⟩⟩
  refine br_f (by rw [o2, cmp_eql hA]; simp; omega) ?_
  conv => cbv
  have hn20 : ¬ WP 20 xs := fun hx => by have := hx.1; omega
  by_cases g32 : n2 = 32
  case neg =>
    have q1 : cmp .eql (ofN n2) 32 = false := by rw [o2, cmp_eql hA]; simp; omega
    simp only [q1]
    conv => cbv
    intro ρ R'' _ _ _
    exact ⟨_, rfl, .inr (.inr ⟨hn20, .inl fun hx => by have := hx.1; omega, rfl⟩)⟩
  have q1 : cmp .eql (ofN n2) 32 = true := by rw [o2, cmp_eql hA]; simp; omega
  simp only [q1]
  conv => cbv
  by_cases hm0 : m = 0
  · refine br_f (by rw [o, cmp_gtr hA]; simp; omega) ?_
    conv => cbv
    intro ρ R'' _ _ _
    exact ⟨_, rfl, .inr (.inr ⟨hn20, .inr (List.eq_nil_of_length_eq_zero (by omega)), rfl⟩)⟩
  refine br_t (by rw [o, cmp_gtr hA]; simp; omega) ?_
  conv => cbv
  have em : bin .sub .i64 (ofN m) 1 = ((m - 1 : Nat) : Int) := by rw [o, sub_i64 hA (by omega)]; omega
  obtain ⟨t, hxt⟩ : ∃ q, wit[m - 1]? = some q := ⟨_, List.getElem?_eq_getElem (by omega)⟩
  refine ix_at hA hw (m - 1) em (by omega) ?_
  refine ld_elem hA hw (m - 1) em hxt ?_
  rintro _ - ⟨b3, m3, d3, rfl, k3, k4, k5⟩
  refine ⟨_, rfl, ?_⟩
  conv => cbv
  have k3l := k3.len
  have htl := hwl t (List.mem_of_getElem? hxt)
  refine (sigOpsP hP R b3 m3 d3 t k3 (by omega) k5 true).callQ rfl ?_
  rintro _ ⟨k9, rfl, hk9⟩
  conv => cbv
  intro ρ R'' _ _ _
  exact ⟨_, rfl, .inr (.inl ⟨hn20, ⟨by omega, hz, by omega⟩, t, by rw [← wl]; exact hxt, hk9⟩)⟩

theorem WP.prog {q : Nat} {xs : List Int} (h : WP q xs) (h2 : 2 ≤ q) (h40 : q ≤ 40) : IsProg xs := by
  obtain ⟨h1, h3, h4⟩ := h
  exact ⟨by omega, by omega, by rw [h3]; decide, by omega⟩

theorem PSO.not {xs : List Int} (h : ¬ IsProg xs) (wit : List (List Int)) : PSO xs wit 0 :=
  .inr (.inr ⟨fun hx => h (hx.prog (by decide) (by decide)), .inl fun hx => h (hx.prog (by decide) (by decide)), rfl⟩)


set_option maxRecDepth 100000 in
theorem witSigOpsP {P : Program} (hP : P = Try.prog) (R : RO) (a : Option Addr) (n c : Nat) (sig : List Int) (h : RI R .u8 a n sig) (hn : n ≤ 100000) (hc : n ≤ c) (a2 : Option Addr) (n2 c2 : Nat) (pk : List Int) (h2 : RI R .u8 a2 n2 pk) (hn2 : n2 ≤ 100000) (hc2 : n2 ≤ c2)
    (w : Option Addr) (m d : Nat) (wit : List (List Int)) (hw : LAt R 1 BAt w m d wit) (hwl : ∀ x ∈ wit, x.length ≤ 100000) (hwm : m ≤ 1000000) :
    RetP P 18 [.slice a n c, .slice a2 n2 c2, .slice w m d] R fun _ v => ∃ k, v = .int .i64 k ∧ WSO sig pk wit k := by
  subst hP
  have hl := h.len
  refine retP_vc (fz := []) Try.func18 rfl (by decide) rfl ok18 ?_
  intro P bin cmp cnv neg com bnot beq ofN toN at_ sub_ scmp cat sget ssz ssub elem fld_ hP hA
  conv => cbv
  refine (isProgP hP R a2 n2 c2 pk h2 hn2 hc2).callQ rfl ?_
  rintro _ ⟨r, rfl, hr⟩
  conv => cbv
  cases r with
  | true =>
    conv => cbv
    refine (progSigOpsP hP R a2 n2 c2 pk h2 hn2 hc2 (hr.1 rfl) w m d wit hw hwl hwm).callQ rfl ?_
    rintro _ ⟨k, rfl, hk⟩
    conv => cbv
    intro ρ R'' _ _ _
    exact ⟨_, rfl, .inl ⟨hr.1 rfl, hk⟩⟩
  | false =>
  have hnp : ¬ IsProg pk := fun hx => by have := hr.2 hx; cases this
  conv => cbv
  refine (paysP hP R a2 n2 c2 pk h2 hn2 hc2).callQ rfl ?_
  rintro _ ⟨r2, rfl, hr2⟩
  conv => cbv
  cases r2 with
  | false =>
    conv => cbv
    intro ρ R'' _ _ _
    exact ⟨_, rfl, .inr ⟨hnp, .inr ⟨.inl (fun hx => by have := hr2.2 hx; cases this), rfl⟩⟩⟩
  | true =>
  have hpay := hr2.1 rfl
  conv => cbv
  refine (pushOnlyP hP R a n c sig h hn hc).callQ rfl ?_
  rintro _ ⟨r3, rfl, hr3⟩
  conv => cbv
  cases r3 with
  | false =>
    conv => cbv
    intro ρ R'' _ _ _
    refine ⟨_, rfl, .inr ⟨hnp, .inr ⟨.inr ?_, rfl⟩⟩⟩
    rintro dd ⟨l, t, h1, h2, _⟩
    have := hr3.2 ⟨_, h1, h2⟩
    cases this
  | true =>
  obtain ⟨L, hL1, hL2⟩ := hr3.1 rfl
  conv => cbv
  have o := ofN_ hA n
  by_cases hz : n = 0
  · refine br_f (by rw [o, cmp_gtr hA]; simp; omega) ?_
    conv => cbv
    intro ρ R'' _ _ _
    refine ⟨_, rfl, .inr ⟨hnp, .inr ⟨.inr ?_, rfl⟩⟩⟩
    rintro dd ⟨l, t, h1, h2, _⟩
    have := h1.le
    simp at this
    omega
  refine br_t (by rw [o, cmp_gtr hA]; simp; omega) ?_
  conv => cbv
  obtain ⟨l, t, rfl⟩ : ∃ l t, L = l ++ [t] := by
    rcases List.eq_nil_or_concat L with rfl | ⟨l, t, rfl⟩
    · have := hL1.place .nil
      omega
    · exact ⟨l, t, by simp⟩
  refine (finalP hP R a n c sig h hn hc l t hL1).callP rfl ?_
  rintro R1 _ hR1 ⟨a4, n4, c4, rfl, h4, hc4, hn4⟩
  have h4l := h4.len
  have hlp : LastP sig t.data := ⟨l, t, hL1, hL2, rfl⟩
  have hw1 : LAt R1 1 BAt w m d wit := hw.le hR1 (fun cs x hx => let ⟨a, n, c, h1, h2, h3⟩ := hx; ⟨a, n, c, h1, h2.le hR1, h3⟩)
  conv => cbv
  have o4 := ofN_ hA n4
  by_cases hz4 : n4 = 0
  · have q1 : cmp .gtr (ofN n4) 0 = false := by rw [o4, cmp_gtr hA]; simp; omega
    simp only [q1]
    conv => cbv
    intro ρ R'' _ _ _
    exact ⟨_, rfl, .inr ⟨hnp, .inl ⟨hpay, _, hlp, .not (fun hx => by have := hx.1; omega) _⟩⟩⟩
  have q1 : cmp .gtr (ofN n4) 0 = true := by rw [o4, cmp_gtr hA]; simp; omega
  simp only [q1]
  conv => cbv
  refine (isProgP hP R1 a4 n4 c4 t.data h4 hn4 hc4).callQ rfl ?_
  rintro _ ⟨r5, rfl, hr5⟩
  conv => cbv
  cases r5 with
  | false =>
    conv => cbv
    intro ρ R'' _ _ _
    exact ⟨_, rfl, .inr ⟨hnp, .inl ⟨hpay, _, hlp, .not (fun hx => by have := hr5.2 hx; cases this) _⟩⟩⟩
  | true =>
  conv => cbv
  refine (progSigOpsP hP R1 a4 n4 c4 t.data h4 hn4 hc4 (hr5.1 rfl) w m d wit hw1 hwl hwm).callQ rfl ?_
  rintro _ ⟨k, rfl, hk⟩
  conv => cbv
  intro ρ R'' _ _ _
  exact ⟨_, rfl, .inr ⟨hnp, .inl ⟨hpay, _, hlp, hk⟩⟩⟩
end Go.Proofs.Ytbakdoienfmacaa.Tk
