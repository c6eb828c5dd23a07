/- A script of many: the package's. -/
import Derived.Test.YtbakdoienfmacaaTkn
set_option linter.unusedSimpArgs false
set_option linter.unusedVariables false
namespace Go.Proofs.Ytbakdoienfmacaa.Tk
open Go Go.Se Go.Proofs Go.Proofs.Ytbakdoienfmacaa.Tytm

structure Lq where
  R : RO
  off : Int
  pos : Int
  op : Value
  d : Value
  cnt : Int



set_option maxRecDepth 100000 in
theorem strict {P : Program} (hP : P = Try.prog) (R : RO) (a : Option Addr) (n c : Nat) (xs : List Int) (h : RI R .u8 a n xs) (hn : n ≤ 1000000000) :
    RetP P 52 [.slice a n c] R fun _ v => ∃ b, v = .bool b := by
  subst hP
  have hl := h.len
  refine retP_vc (fz := []) Try.func52 rfl (by decide) rfl ok52 ?_
  intro P bin cmp cnv neg com bnot beq ofN toN at_ sub_ scmp cat sget ssz ssub elem fld_ hP hA
  conv => cbv
  have o := ofN_ hA n
  by_cases h33 : n = 33
  · have d1 : cmp .eql (ofN n) 33 = true := by rw [o, cmp_eql hA]; simp; omega
    have d2 : cmp .eql (ofN n) 65 = false := by rw [o, cmp_eql hA]; simp; omega
    simp only [d1]
    conv => cbv
    refine ix_u8 hA h 0 rfl (by omega) ?_
    refine ld_u8 hA h (by omega) (by omega) ?_
    intro b hb b0 b1
    conv => cbv
    by_cases h2 : b = 2
    · have q2 : cmp .eql b 2 = true := by rw [cmp_eql hA]; simpa using h2
      simp only [q2]
      conv => cbv
      intro ρ R'' _ _ _
      exact ⟨_, rfl⟩
    have q2 : cmp .eql b 2 = false := by rw [cmp_eql hA]; simpa using h2
    simp only [q2]
    conv => cbv
    refine ix_u8 hA h 0 rfl (by omega) ?_
    refine ld_u8 hA h (by omega) (by omega) ?_
    intro b' hb' b0' b1'
    conv => cbv
    refine br_of (fun h3 => ?_) (fun h3 => ?_)
    · conv => cbv
      intro ρ R'' _ _ _
      exact ⟨_, rfl⟩
    conv => cbv
    refine br_f d2 ?_
    conv => cbv
    intro ρ R'' _ _ _
    exact ⟨_, rfl⟩
  have d1 : cmp .eql (ofN n) 33 = false := by rw [o, cmp_eql hA]; simp; omega
  simp only [d1]
  conv => cbv
  by_cases h65 : n = 65
  · refine br_t (by rw [o, cmp_eql hA]; simp; omega) ?_
    conv => cbv
    refine ix_u8 hA h 0 rfl (by omega) ?_
    refine ld_u8 hA h (by omega) (by omega) ?_
    intro b hb b0 b1
    conv => cbv
    by_cases h4 : b = 4
    · have q4 : cmp .eql b 4 = true := by rw [cmp_eql hA]; simpa using h4
      simp only [q4]
      conv => cbv
      intro ρ R'' _ _ _
      exact ⟨_, rfl⟩
    have q4 : cmp .eql b 4 = false := by rw [cmp_eql hA]; simpa using h4
    simp only [q4]
    conv => cbv
    by_cases h6 : b = 6
    · have q6 : cmp .eql b 6 = true := by rw [cmp_eql hA]; simpa using h6
      simp only [q6]
      conv => cbv
      intro ρ R'' _ _ _
      exact ⟨_, rfl⟩
    have q6 : cmp .eql b 6 = false := by rw [cmp_eql hA]; simpa using h6
    simp only [q6]
    conv => cbv
    refine br_of (fun h7 => ?_) (fun h7 => ?_)
    · conv => cbv
      intro ρ R'' _ _ _
      exact ⟨_, rfl⟩
    · conv => cbv
      intro ρ R'' _ _ _
      exact ⟨_, rfl⟩
  · refine br_f (by rw [o, cmp_eql hA]; simp; omega) ?_
    conv => cbv
    intro ρ R'' _ _ _
    exact ⟨_, rfl⟩



set_option maxRecDepth 100000 in
set_option maxHeartbeats 4000000 in
theorem details {P : Program} (hP : P = Try.prog) (hOp : OpSpec Try.prog) (R : RO) (a : Option Addr) (n c : Nat) (xs : List Int) (h : RI R .u8 a n xs) (hn : n ≤ 100000) (hc : n ≤ c) :
    RetP P 28 [.int .u16 0, .slice a n c, .bool false] R fun _ v => (∃ k s, v = .agg #[.int .i64 s, .int .i64 k, .slice none 0 0, .bool true] ∧ Many xs k s) ∨ (v = .agg #[.int .i64 0, .int .i64 0, .slice none 0 0, .bool false] ∧ ∀ k s, ¬ Many xs k s) := by
  subst hP
  have hl := h.len
  refine retP_vc (fz := []) Try.func28 rfl (by decide) rfl ok28 ?_
  intro P bin cmp cnv neg com bnot beq ofN toN at_ sub_ scmp cat sget ssz ssub elem fld_ hP hA
  conv => cbv
  have hOp' : OpSpec P := by rw [hP]; exact hOp
  have o := ofN_ hA n
  have nt : bnot true = false := by rw [bnot_ hA]; rfl
  have nf : bnot false = true := by rw [bnot_ hA]; rfl
  refine br_f (by rw [cmp_neq hA]; rfl) ?_
  conv => cbv
  by_cases h3 : n < 3
  · have d1 : cmp .lss (ofN n) 3 = true := by rw [o, cmp_lss hA]; simp; omega
    simp only [d1]
    conv => cbv
    intro ρ R'' _ _ _
    refine .inr ⟨rfl, fun k s hm => ?_⟩
    have := hm.ends
    omega
  have d1 : cmp .lss (ofN n) 3 = false := by rw [o, cmp_lss hA]; simp; omega
  simp only [d1]
  conv => cbv
  have e1 : bin .sub .i64 (ofN n) 1 = ((n - 1 : Nat) : Int) := by rw [o, sub_i64 hA (by omega)]; omega
  refine ix_u8 hA h (n - 1) e1 (by omega) ?_
  refine ld_u8 hA h (by omega) (by omega) ?_
  intro b hb b0 b1
  rw [e1, Int.toNat_natCast, hl] at hb
  conv => cbv
  by_cases h174 : b = 174
  case neg =>
    refine br_t (by rw [cmp_neq hA]; simpa using h174) ?_
    conv => cbv
    intro ρ R'' _ _ _
    refine .inr ⟨rfl, fun k s hm => ?_⟩
    have := hm.ends
    omega
  refine br_f (by rw [cmp_neq hA]; simpa using h174) ?_
  conv => cbv
  refine callP_in (fz := []) hP hA Try.func39 rfl (by decide) rfl ok39 (by simp [labL, lab]) ?_
  conv => cbv
  refine br_f (by rw [cmp_neq hA]; rfl) ?_
  conv => cbv
  refine CallP.lend (next hP hOp' R a n c xs h hn hc 0 0 (-1) rfl (by omega) ⟨by omega, by omega⟩ (.pointer none) (.slice none 0 0) (fun cs h => by cases h) (fun cs h => by cases h)) rfl rfl ?_
  intro R2 hp' nx' rs' r hR2 hout
  rcases hout () with ⟨op, d, k', ad, s, a7, n7, c7, off', hx, hst, rfl, ho, hf, hcc, h7, hiff⟩ | ⟨off', pos', op, d, er, rfl, hoe, hf, hend⟩
  case inr =>
    refine ⟨_, _, _, hf, rfl, rfl, ?_⟩
    conv => cbv
    simp only [nf]
    conv => cbv
    intro ρ R'' _ _ _
    refine .inr ⟨rfl, fun k s hm => ?_⟩
    refine hm.not .nil ?_ (fun i u _ hu => by simp at hu)
    rcases hend with ⟨hpe, _⟩ | ⟨_, hst, _⟩
    · exact stuck_end hpe
    · exact .inr hst
  refine ⟨_, _, _, hf, rfl, rfl, ?_⟩
  conv => cbv
  simp only [nt]
  conv => cbv
  have hto := Toks.nil.snoc hx hst
  have hop := wf_u8 (h.wf op (List.mem_of_getElem? hx))
  refine callP_in (fz := []) hP hA Try.func50 rfl (by decide) rfl ok50 (by simp [labL, lab]) ?_
  conv => cbv
  refine ld_at hA hcc 0 rfl ?_
  conv => cbv
  refine (isSmall hP R2 op hop.1 hop.2).callQ rfl ?_
  rintro _ ⟨bs, rfl, hbs⟩
  conv => cbv
  cases hs0 : smallV op with
  | none =>
    rw [hs0] at hbs
    subst hbs
    simp only [Option.isSome, nf]
    conv => cbv
    intro ρ R'' _ _ _
    refine .inr ⟨rfl, fun k s hm => ?_⟩
    have := hm.first hto (t := ⟨op, d, 0⟩) rfl
    rw [hs0] at this
    cases this
  | some s0 =>
  rw [hs0] at hbs
  subst hbs
  simp only [Option.isSome, nt]
  conv => cbv
  refine callP_in (fz := []) hP hA Try.func50 rfl (by decide) rfl ok50 (by simp [labL, lab]) ?_
  conv => cbv
  refine ld_at hA hcc 0 rfl ?_
  conv => cbv
  refine (asSmall hP R2 op s0 hop.1 hop.2 hs0).callQ rfl ?_
  rintro _ ⟨s0', rfl, rfl⟩
  conv => cbv
  have hle0 := hto.le
  have hks0 := stepT_le hst
  refine ⟨Lq, fun x => ⟨[(7, .p 2 0), (8, .v (.int .i64 s0')), (9, .v (.int .i64 x.cnt)), (10, .v (.slice none 0 0)), (2, .v (.bool false)), (6, .p 0 0)], x.R,
      [(0, ⟨61, [.v (.int .i64 0), .v (.int .i64 0), .v (.slice none 0 0), .v (.bool false)]⟩), (2, ⟨78, [.v (.slice a n c), .v (.int .u16 0), .v (.int .i32 x.off), .v (.int .i32 x.pos), .v x.op, .v x.d, .v .nilIface]⟩)], 3, []⟩,
    fun k x => ∃ (p : Nat) (l : List Tok), x.off = p ∧ p ≤ xs.length ∧ k = xs.length - p ∧ Toks xs l p ∧ R.le x.R ∧ -1 ≤ x.pos ∧ x.pos < p ∧ (∀ cs, x.op ≠ .agg cs) ∧ (∀ cs, x.d ≠ .agg cs) ∧ x.cnt = (l.length : Int) - 1 ∧ (∃ t, l[0]? = some t ∧ smallV t.op = some s0') ∧ 1 ≤ l.length ∧
      ∀ (i : Nat) (u : Tok), 1 ≤ i → l[i]? = some u → smallV u.op = none,
    ⟨xs.length - (0 + k'), ⟨R2, _, _, _, _, 0⟩, ⟨⟨rfl, rfl, rfl, rfl, rfl, rfl, trivial⟩, rfl, ⟨rfl, rfl, trivial⟩, rfl, .refl _⟩, 0 + k', _, ho, by omega, rfl, hto, hR2, by show -1 ≤ (-1 : Int) + 1; omega, by show (-1 : Int) + 1 < ((0 + k' : Nat) : Int); omega, fun cs h => (by cases h), fun cs h => (by cases h), rfl, ⟨_, rfl, hs0⟩, by simp, fun i u h1 hu => by
      rw [List.nil_append, List.getElem?_eq_none (by simp; omega)] at hu; cases hu⟩, ?_⟩
  clear hto hx hst ho hf hcc h7 hiff hop hle0 hks0 hR2 hout
  clear hp' nx' rs'
  rintro k ⟨R1, off, pos, opv, dv, cnt⟩ ⟨p, l, hoff, hp, hk, ht, hR1, hpos, hpos2, hov, hdv, hcnt, ⟨t0, ht0, hst0⟩, hl1, hnone⟩
  simp only at hoff hR1 hpos hpos2 hov hdv hcnt
  have htl := ht.le
  conv => cbv
  refine CallP.lend (next hP hOp' R1 a n c xs (h.le hR1) hn hc p off pos hoff hp ⟨hpos, hpos2⟩ opv dv hov hdv) rfl rfl ?_
  intro R3 hp' nx' rs' r hR3 hout
  have en : cnv .i32 (ofN n) = n := by rw [o]; exact cnv_i32 hA (by omega)
  rcases hout () with ⟨op2, d2, k2, ad2, s2, a7, n7, c7, off', hx, hst, rfl, ho, hf, hcc, h7, hiff⟩ | ⟨off', pos', op2, d2, er, rfl, hoe, hf, hend⟩
  case inr =>
    refine ⟨_, _, _, hf, rfl, rfl, ?_⟩
    conv => cbv
    refine callP_in (fz := []) hP hA Try.func53 rfl (by decide) rfl ok53 (by simp [labL, lab]) ?_
    conv => cbv
    refine ⟨[0, 1, 2, 3, 4, 5, 6, 7, 8, 9, 10, 11, 12, 13, 14, 15, 16, 17, 18], [], mix hP, by kernel_rfl, ?_⟩
    rcases hend with ⟨hpe, rfl⟩ | ⟨hpl, hst, s, rfl⟩
    · conv => cbv
      simp only [nt]
      conv => cbv
      refine br_t (by rw [en, cmp_geq hA]; simp; omega) ?_
      conv => cbv
      intro ρ R'' _ _ _
      refine .inr ⟨rfl, fun k s hm => ?_⟩
      exact hm.not ht (stuck_end hpe) hnone
    · conv => cbv
      simp only [nf]
      conv => cbv
      intro ρ R'' _ _ _
      refine .inr ⟨rfl, fun k s hm => ?_⟩
      exact hm.not ht (.inr hst) hnone
  refine ⟨_, _, _, hf, rfl, rfl, ?_⟩
  conv => cbv
  have hto := ht.snoc hx hst
  have hop := wf_u8 (h.wf op2 (List.mem_of_getElem? hx))
  have hle2 := hto.le
  have hks := stepT_le hst
  refine callP_in (fz := []) hP hA Try.func50 rfl (by decide) rfl ok50 (by simp [labL, lab]) ?_
  conv => cbv
  refine ld_at hA hcc 0 rfl ?_
  conv => cbv
  refine (isSmall hP R3 op2 hop.1 hop.2).callQ rfl ?_
  rintro _ ⟨bs, rfl, hbs⟩
  conv => cbv
  cases hs2 : smallV op2 with
  | none =>
    rw [hs2] at hbs
    subst hbs
    simp only [Option.isSome]
    refine br_f rfl ?_
    conv => cbv
    refine callP_in (fz := []) hP hA Try.func42 rfl (by decide) rfl ok42 (by simp [labL, lab]) ?_
    conv => cbv
    have hl7 := h7.len
    have hdl : (xs.drop p).length = xs.length - p := by simp
    refine (strict hP R3 a7 n7 c7 d2 h7 (by omega)).callQ rfl ?_
    rintro _ ⟨bk, rfl⟩
    conv => cbv
    refine br_of (fun hb1 => ?_) (fun hb1 => ?_)
    · conv => cbv
      refine ⟨xs.length - (p + k2), ⟨R3, off', pos + 1, .pointer (some ad2), .slice a7 n7 c7, cnt + 1⟩, by omega, ⟨⟨rfl, rfl, ?_, rfl, rfl, rfl, trivial⟩, rfl, ⟨rfl, rfl, trivial⟩, rfl, .refl _⟩, p + k2, _, ho, by omega, rfl, hto, RO.le_trans hR1 hR3, by show -1 ≤ pos + 1; omega, by show pos + 1 < ((p + k2 : Nat) : Int); omega,
        fun cs h => (by cases h), fun cs h => (by cases h), ?_, ⟨t0, ?_, hst0⟩, by simp, fun i u h1 hu => ?_⟩
      · rw [add_i64 hA (by omega)]
        rfl
      · show cnt + 1 = _
        simp
        omega
      · rw [List.getElem?_append_left (by omega)]
        exact ht0
      · rw [List.getElem?_append] at hu
        split at hu
        · exact hnone i u h1 hu
        · rename_i hi
          rcases Nat.eq_zero_or_pos (i - l.length) with h0 | h0
          · rw [h0] at hu
            simp at hu
            rw [← hu]
            exact hs2
          · rw [List.getElem?_eq_none (by simp; omega)] at hu
            cases hu
    · conv => cbv
      refine ⟨xs.length - (p + k2), ⟨R3, off', pos + 1, .pointer (some ad2), .slice a7 n7 c7, cnt + 1⟩, by omega, ⟨⟨rfl, rfl, ?_, rfl, rfl, rfl, trivial⟩, rfl, ⟨rfl, rfl, trivial⟩, rfl, .refl _⟩, p + k2, _, ho, by omega, rfl, hto, RO.le_trans hR1 hR3, by show -1 ≤ pos + 1; omega, by show pos + 1 < ((p + k2 : Nat) : Int); omega,
        fun cs h => (by cases h), fun cs h => (by cases h), ?_, ⟨t0, ?_, hst0⟩, by simp, fun i u h1 hu => ?_⟩
      · rw [add_i64 hA (by omega)]
        rfl
      · show cnt + 1 = _
        simp
        omega
      · rw [List.getElem?_append_left (by omega)]
        exact ht0
      · rw [List.getElem?_append] at hu
        split at hu
        · exact hnone i u h1 hu
        · rename_i hi
          rcases Nat.eq_zero_or_pos (i - l.length) with h0 | h0
          · rw [h0] at hu
            simp at hu
            rw [← hu]
            exact hs2
          · rw [List.getElem?_eq_none (by simp; omega)] at hu
            cases hu
  | some k3 =>
    rw [hs2] at hbs
    subst hbs
    simp only [Option.isSome]
    refine br_t rfl ?_
    conv => cbv
    refine callP_in (fz := []) hP hA Try.func53 rfl (by decide) rfl ok53 (by simp [labL, lab]) ?_
    conv => cbv
    refine ⟨[0, 1, 2, 3, 4, 5, 6, 7, 8, 9, 10, 11, 12, 13, 14, 15, 16, 17, 18], [], mix hP, by kernel_rfl, ?_⟩
    conv => cbv
    simp only [nt]
    conv => cbv
    have hat : ∀ k s, Many xs k s → (l.length : Int) - 1 = k ∧ some k3 = some k ∧ (p + k2) + 1 = xs.length := fun k s hm => by
      have := hm.at_ hto hl1 hnone (by rw [hs2]; intro hx; cases hx)
      rw [hs2] at this
      exact ⟨this.1, this.2.1, this.2.2.1⟩
    by_cases hend : p + k2 = xs.length
    · refine br_t (by rw [en, cmp_geq hA]; simp; omega) ?_
      conv => cbv
      intro ρ R'' _ _ _
      refine .inr ⟨rfl, fun k s hm => ?_⟩
      have := hat k s hm
      omega
    refine br_f (by rw [en, cmp_geq hA]; simp; omega) ?_
    conv => cbv
    refine callP_in (fz := []) hP hA Try.func50 rfl (by decide) rfl ok50 (by simp [labL, lab]) ?_
    conv => cbv
    refine ld_at hA hcc 0 rfl ?_
    conv => cbv
    refine (isSmall hP R3 op2 hop.1 hop.2).callQ rfl ?_
    rintro _ ⟨bs, rfl, hbs⟩
    rw [hs2] at hbs
    subst hbs
    conv => cbv
    simp only [Option.isSome, nt]
    conv => cbv
    refine (asSmall hP R3 op2 k3 hop.1 hop.2 hs2).callQ rfl ?_
    rintro _ ⟨k4, rfl, rfl⟩
    conv => cbv
    by_cases hkc : k4 = cnt
    case neg =>
      refine br_t (by rw [cmp_neq hA]; simpa using hkc) ?_
      conv => cbv
      intro ρ R'' _ _ _
      refine .inr ⟨rfl, fun k s hm => ?_⟩
      have := hat k s hm
      have h2 := Option.some.inj this.2.1
      omega
    refine br_f (by rw [cmp_neq hA]; simpa using hkc) ?_
    conv => cbv
    refine callP_in (fz := []) hP hA Try.func54 rfl (by decide) rfl ok54 (by simp [labL, lab]) ?_
    conv => cbv
    refine callP_in (fz := []) hP hA Try.func45 rfl (by decide) rfl ok45 (by simp [labL, lab]) ?_
    conv => cbv
    have es : bin .sub .i32 (cnv .i32 (ofN n)) off' = (n : Int) - off' := by rw [en]; exact sub_i32 hA (by omega)
    by_cases hone : (p + k2) + 1 = xs.length
    case neg =>
      refine br_t (by rw [es, cmp_neq hA]; simp; omega) ?_
      conv => cbv
      intro ρ R'' _ _ _
      refine .inr ⟨rfl, fun k s hm => ?_⟩
      have := hat k s hm
      omega
    refine br_f (by rw [es, cmp_neq hA]; simp; omega) ?_
    conv => cbv
    intro ρ R'' _ _ _
    exact .inl ⟨_, _, rfl, many_of hto ht0 hst0 hnone (by show smallV op2 = some cnt; rw [hs2, hkc]) (by omega) hone (by omega)⟩

set_option maxRecDepth 100000 in
theorem statsPkg {P : Program} (hP : P = Try.prog) (R : RO) (a : Option Addr) (n c : Nat) (xs : List Int) (h : RI R .u8 a n xs) (hn : n ≤ 100000) (hc : n ≤ c) :
    RetP P 16 [.slice a n c] R fun _ v => (∃ k s, v = .tuple #[.int .i64 k, .int .i64 s, .nilIface] ∧ Many xs k s) ∨ ((∃ t, v = .tuple #[.int .i64 0, .int .i64 0, .iface 66 (.agg #[.int .i64 4, .string t])]) ∧ ∀ k s, ¬ Many xs k s) := by
  subst hP
  refine retP_vc (fz := []) Try.func16 rfl (by decide) rfl ok16 ?_
  intro P bin cmp cnv neg com bnot beq ofN toN at_ sub_ scmp cat sget ssz ssub elem fld_ hP hA
  conv => cbv
  have nt : bnot true = false := by rw [bnot_ hA]; rfl
  have nf : bnot false = true := by rw [bnot_ hA]; rfl
  refine (details hP opSpec R a n c xs h hn hc).callQ rfl ?_
  rintro _ (⟨k, s, rfl, hm⟩ | ⟨rfl, hm⟩)
  · conv => cbv
    refine br_f nt ?_
    conv => cbv
    refine ⟨[0, 1, 2, 3, 4, 5, 6], [], mix hP, by kernel_rfl, ?_⟩
    conv => cbv
    intro ρ R'' _ _ _
    exact .inl ⟨k, s, rfl, hm⟩
  · conv => cbv
    refine br_t nf ?_
    conv => cbv
    refine callP_in (fz := []) hP hA Try.func29 rfl (by decide) rfl ok29 (by simp [labL, lab]) ?_
    conv => cbv
    intro ρ R'' _ _ _
    exact .inr ⟨⟨_, rfl⟩, hm⟩

set_option maxRecDepth 100000 in
theorem statsThin {P : Program} (hP : P = Try.prog) (R : RO) (a : Option Addr) (n c : Nat) (xs : List Int) (h : RI R .u8 a n xs) (hn : n ≤ 100000) (hc : n ≤ c) :
    RetP P 7 [.slice a n c] R fun _ v => ∃ k s e, v = .tuple #[.int .i64 k, .int .i64 s, .int .i64 e] ∧ ((e = 0 ∧ Many xs k s) ∨ (e ≠ 0 ∧ ∀ k s, ¬ Many xs k s)) := by
  subst hP
  refine retP_vc (fz := []) Try.func7 rfl (by decide) rfl ok7 ?_
  intro P bin cmp cnv neg com bnot beq ofN toN at_ sub_ scmp cat sget ssz ssub elem fld_ hP hA
  conv => cbv
  refine (statsPkg hP R a n c xs h hn hc).callQ rfl ?_
  rintro _ (⟨k, s, rfl, hm⟩ | ⟨⟨t, rfl⟩, hm⟩)
  · conv => cbv
    refine callP_in (fz := []) hP hA Try.func17 rfl (by decide) rfl ok17 (by simp [labL, lab]) ?_
    conv => cbv
    intro ρ R'' _ _ _
    exact ⟨k, s, _, rfl, .inl ⟨rfl, hm⟩⟩
  · conv => cbv
    refine callP_in (fz := []) hP hA Try.func17 rfl (by decide) rfl ok17 (by simp [labL, lab]) ?_
    conv => cbv
    intro ρ R'' _ _ _
    refine ⟨_, _, _, rfl, .inr ⟨?_, hm⟩⟩
    show bin .add .i64 4 1 ≠ 0
    rw [add_i64 hA (by omega)]
    decide


set_option maxRecDepth 100000 in
theorem lawMany (R : RO) (a : Option Addr) (n c : Nat) (xs : List Int) (h : RI R .u8 a n xs) (hmx : n ≤ 9223372036854775807) (hc : n ≤ c) : RetP Try.prog 3 [.slice a n c] R fun _ v => v = .bool true := by
  have hl := h.len
  refine retP_vc (fz := []) Try.func3 rfl (by decide) rfl ok3 ?_
  intro P bin cmp cnv neg com bnot beq ofN toN at_ sub_ scmp cat sget ssz ssub elem fld_ hP hA
  conv => cbv
  have o := ofN_ hA n
  have nt : bnot true = false := by rw [bnot_ hA]; rfl
  have nf : bnot false = true := by rw [bnot_ hA]; rfl
  by_cases h1 : n > 2147483647
  · refine br_t (by rw [o, cmp_gtr hA]; simp; omega) ?_
    conv => cbv
    intro ρ R'' _ _ _
    rfl
  refine br_f (by rw [o, cmp_gtr hA]; simp; omega) ?_
  conv => cbv
  by_cases h2 : n > 100000
  · refine br_t (by rw [o, cmp_gtr hA]; simp; omega) ?_
    conv => cbv
    intro ρ R'' _ _ _
    rfl
  refine br_f (by rw [o, cmp_gtr hA]; simp; omega) ?_
  conv => cbv
  refine (manyS hP R a n c xs h (by omega) hc).callQ rfl ?_
  rintro _ ⟨k, s, b, rfl, hb⟩
  conv => cbv
  refine (statsThin hP R a n c xs h (by omega) hc).callQ rfl ?_
  rintro _ ⟨k', s', e, rfl, he⟩
  conv => cbv
  rcases hb with ⟨rfl, hm⟩ | ⟨rfl, hm⟩
  · refine br_f nt ?_
    conv => cbv
    rcases he with ⟨rfl, hm'⟩ | ⟨_, hm'⟩
    · obtain ⟨rfl, rfl⟩ := hm.one hm'
      have q0 : cmp .eql 0 0 = true := by rw [cmp_eql hA]; rfl
      have q1 : cmp .eql k k = true := by rw [cmp_eql hA]; simp
      have q2 : cmp .eql s s = true := by rw [cmp_eql hA]; simp
      simp only [q0]
      conv => cbv
      simp only [q1]
      conv => cbv
      simp only [q2]
      conv => cbv
      intro ρ R'' _ _ _
      rfl
    · exact absurd hm (hm' _ _)
  · refine br_t nf ?_
    conv => cbv
    rcases he with ⟨rfl, hm'⟩ | ⟨hz, hm'⟩
    · exact absurd hm' (hm _ _)
    · intro ρ R'' _ _ _
      show Value.bool (cmp .neq e 0) = .bool true
      rw [cmp_neq hA]
      simpa using hz
end Go.Proofs.Ytbakdoienfmacaa.Tk
