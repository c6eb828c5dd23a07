/- The package's checks of a witness. -/
import Derived.Test.YtbakdoienfmacaaTkt
set_option linter.unusedSimpArgs false
set_option linter.unusedVariables false
namespace Go.Proofs.Ytbakdoienfmacaa.Tk
open Go Go.Se Go.Proofs Go.Proofs.Ytbakdoienfmacaa.Tytw


structure Lo where
  R : RO
  off : Int
  pos : Int
  op : Value
  d : Value
  cnt : Int
  prev : Int




structure Lp2 where
  R : RO
  off : Int
  pos : Int
  op : Value
  d : Value

structure Lf where
  R : RO
  off : Int
  pos : Int
  op : Value
  d : Value
  a : Option Addr
  n : Nat
  c : Nat



set_option maxRecDepth 100000 in
set_option maxHeartbeats 4000000 in
theorem sigOpsP {P : Program} (hP : P = Try.prog) (R : RO) (a : Option Addr) (n c : Nat) (xs : List Int) (h : RI R .u8 a n xs) (hn : n ≤ 100000) (hc : n ≤ c) (pr : Bool) :
    RetP P 57 [.slice a n c, .bool pr] R fun _ v => ∃ k, v = .int .i64 k ∧ Ops pr xs k := by
  subst hP
  have hl := h.len
  refine retP_vc (fz := []) Try.func57 rfl (by decide) rfl ok57 ?_
  intro P bin cmp cnv neg com bnot beq ofN toN at_ sub_ scmp cat sget ssz ssub elem fld_ hP hA
  conv => cbv
  have hOp' : OpSpec P := by rw [hP]; exact opSpec
  refine callP_in (fz := []) hP hA Try.func39 rfl (by decide) rfl ok39 (by simp [labL, lab]) ?_
  conv => cbv
  refine br_f (by rw [cmp_neq hA]; rfl) ?_
  conv => cbv
  refine ⟨Lo, fun x => ⟨[(6, .p 1 0), (5, .v (.int .i64 x.cnt)), (7, .v (.int .u8 x.prev)), (1, .v (.bool pr))], x.R, [(1, ⟨78, [.v (.slice a n c), .v (.int .u16 0), .v (.int .i32 x.off), .v (.int .i32 x.pos), .v x.op, .v x.d, .v .nilIface]⟩)], 2, []⟩,
    fun k x => ∃ (p : Nat) (l : List Tok), x.off = p ∧ p ≤ xs.length ∧ k = xs.length - p ∧ Toks xs l p ∧ R.le x.R ∧ -1 ≤ x.pos ∧ x.pos < p ∧ (∀ cs, x.op ≠ .agg cs) ∧ (∀ cs, x.d ≠ .agg cs) ∧ soS pr l = (x.cnt, x.prev) ∧ 0 ≤ x.prev ∧ x.prev ≤ 255,
    ⟨xs.length, ⟨R, 0, -1, .pointer none, .slice none 0 0, 0, 255⟩, ⟨⟨rfl, rfl, rfl, rfl, trivial⟩, rfl, ⟨rfl, trivial⟩, rfl, .refl _⟩, 0, [], rfl, by omega, rfl, .nil, RO.le_refl _, Int.le_refl (-1), (by decide : (-1 : Int) < ((0 : Nat) : Int)), fun cs h => (by cases h), fun cs h => (by cases h), rfl, (by decide : (0 : Int) ≤ 255), Int.le_refl 255⟩, ?_⟩
  rintro k ⟨R1, off, pos, opv, dv, cnt, prev⟩ ⟨p, l, hoff, hp, hk, ht, hR1, hpos, hpos2, hov, hdv, hcnt, hp0, hp1⟩
  simp only at hoff hR1 hpos hpos2 hov hdv hcnt hp0 hp1
  have htl := ht.le
  have hcr := soS_range pr l
  rw [hcnt] at hcr
  simp only at hcr
  conv => cbv
  refine CallP.lend (next hP hOp' R1 a n c xs (h.le hR1) hn hc p off pos hoff hp ⟨hpos, hpos2⟩ opv dv hov hdv) rfl rfl ?_
  intro R3 hp' nx' rs' r hR3 hout
  rcases hout () with ⟨op2, d2, k2, ad2, s2, a7, n7, c7, off', hx, hst, rfl, ho, hf, hcc, h7, hiff, -⟩ | ⟨off', pos', op2, d2, er, rfl, hoe, hf, hend⟩
  case inr =>
    refine ⟨_, _, _, hf, rfl, rfl, ?_⟩
    conv => cbv
    intro ρ R'' _ _ _
    refine ⟨_, rfl, l, p, ht, ?_, by rw [hcnt]⟩
    rcases hend with ⟨hpe, _⟩ | ⟨_, hst, _⟩
    · exact stuck_end hpe
    · exact .inr hst
  refine ⟨_, _, _, hf, rfl, rfl, ?_⟩
  conv => cbv
  have hto := ht.snoc hx hst
  have hop := wf_u8 (h.wf op2 (List.mem_of_getElem? hx))
  have hle2 := hto.le
  have hks := stepT_le hst
  refine callP_in (fz := []) hP hA Try.func50 rfl (by decide) rfl ok50 (by simp [labL, lab]) ?_
  conv => cbv
  refine ld_at hA hcc 0 rfl ?_
  conv => cbv
  by_cases h1 : op2 = 172
  · have q1 : cmp .eql op2 172 = true := by rw [cmp_eql hA]; simpa using h1
    simp only [q1]
    conv => cbv
    refine callP_in (fz := []) hP hA Try.func50 rfl (by decide) rfl ok50 (by simp [labL, lab]) ?_
    conv => cbv
    refine ld_at hA hcc 0 rfl ?_
    conv => cbv
    refine ⟨xs.length - (p + k2), ⟨R3, off', pos + 1, .pointer (some ad2), .slice a7 n7 c7, cnt + 1, op2⟩, by omega, ⟨⟨rfl, ?_, rfl, rfl, trivial⟩, rfl, ⟨rfl, trivial⟩, rfl, .refl _⟩, p + k2, _, ho, by omega, rfl, hto, RO.le_trans hR1 hR3, by show -1 ≤ pos + 1; omega, by show pos + 1 < ((p + k2 : Nat) : Int); omega,
      fun cs h => (by cases h), fun cs h => (by cases h), ?_, hop.1, hop.2⟩
    · have eN : bin .add .i64 cnt 1 = cnt + 1 := add_i64 hA (by omega)
      rw [eN]
      rfl
    rw [soS_snoc, hcnt]
    show (cnt + so1 _ prev op2, op2) = (cnt + 1, op2)
    rw [so1, if_pos (by omega)]
  have q1 : cmp .eql op2 172 = false := by rw [cmp_eql hA]; simpa using h1
  simp only [q1]
  conv => cbv
  by_cases h2 : op2 = 173
  · refine br_t (by rw [cmp_eql hA]; simpa using h2) ?_
    conv => cbv
    refine callP_in (fz := []) hP hA Try.func50 rfl (by decide) rfl ok50 (by simp [labL, lab]) ?_
    conv => cbv
    refine ld_at hA hcc 0 rfl ?_
    conv => cbv
    refine ⟨xs.length - (p + k2), ⟨R3, off', pos + 1, .pointer (some ad2), .slice a7 n7 c7, cnt + 1, op2⟩, by omega, ⟨⟨rfl, ?_, rfl, rfl, trivial⟩, rfl, ⟨rfl, trivial⟩, rfl, .refl _⟩, p + k2, _, ho, by omega, rfl, hto, RO.le_trans hR1 hR3, by show -1 ≤ pos + 1; omega, by show pos + 1 < ((p + k2 : Nat) : Int); omega,
      fun cs h => (by cases h), fun cs h => (by cases h), ?_, hop.1, hop.2⟩
    · have eN : bin .add .i64 cnt 1 = cnt + 1 := add_i64 hA (by omega)
      rw [eN]
      rfl
    rw [soS_snoc, hcnt]
    show (cnt + so1 _ prev op2, op2) = (cnt + 1, op2)
    rw [so1, if_pos (by omega)]
  refine br_f (by rw [cmp_eql hA]; simpa using h2) ?_
  conv => cbv
  by_cases h3 : op2 = 174 ∨ op2 = 175
  case neg =>
    have q3 : cmp .eql op2 174 = false := by rw [cmp_eql hA]; simp; omega
    simp only [q3]
    conv => cbv
    have q4 : cmp .eql op2 175 = false := by rw [cmp_eql hA]; simp; omega
    simp only [q4]
    conv => cbv
    refine callP_in (fz := []) hP hA Try.func50 rfl (by decide) rfl ok50 (by simp [labL, lab]) ?_
    conv => cbv
    refine ld_at hA hcc 0 rfl ?_
    conv => cbv
    refine ⟨xs.length - (p + k2), ⟨R3, off', pos + 1, .pointer (some ad2), .slice a7 n7 c7, cnt, op2⟩, by omega, ⟨⟨rfl, ?_, rfl, rfl, trivial⟩, rfl, ⟨rfl, trivial⟩, rfl, .refl _⟩, p + k2, _, ho, by omega, rfl, hto, RO.le_trans hR1 hR3, by show -1 ≤ pos + 1; omega, by show pos + 1 < ((p + k2 : Nat) : Int); omega,
      fun cs h => (by cases h), fun cs h => (by cases h), ?_, hop.1, hop.2⟩
    · rfl
    rw [soS_snoc, hcnt]
    show (cnt + so1 _ prev op2, op2) = (cnt, op2)
    rw [so1, if_neg (by omega), if_neg h3, Int.add_zero]
  obtain ⟨b4, hb4⟩ : ∃ b4, b4 = cmp .eql op2 174 := ⟨_, rfl⟩
  rw [← hb4]
  have hb5 : b4 = false → cmp .eql op2 175 = true := fun h => by
    rw [h, cmp_eql hA] at hb4
    rw [cmp_eql hA]
    simp at hb4 ⊢
    omega
  clear hb4
  cases b4
  · conv => cbv
    refine br_t (hb5 rfl) ?_
    clear hb5
    conv => cbv
    cases pr with
    | false =>
      conv => cbv
      refine callP_in (fz := []) hP hA Try.func50 rfl (by decide) rfl ok50 (by simp [labL, lab]) ?_
      conv => cbv
      refine ld_at hA hcc 0 rfl ?_
      conv => cbv
      refine ⟨xs.length - (p + k2), ⟨R3, off', pos + 1, .pointer (some ad2), .slice a7 n7 c7, cnt + 20, op2⟩, by omega, ⟨⟨rfl, ?_, rfl, rfl, trivial⟩, rfl, ⟨rfl, trivial⟩, rfl, .refl _⟩, p + k2, _, ho, by omega, rfl, hto, RO.le_trans hR1 hR3, by show -1 ≤ pos + 1; omega, by show pos + 1 < ((p + k2 : Nat) : Int); omega,
        fun cs h => (by cases h), fun cs h => (by cases h), ?_, hop.1, hop.2⟩
      · have eN : bin .add .i64 cnt 20 = cnt + 20 := add_i64 hA (by omega)
        rw [eN]
        rfl
      rw [soS_snoc, hcnt]
      show (cnt + so1 _ prev op2, op2) = (cnt + 20, op2)
      rw [so1, if_neg (by omega), if_pos (by omega), if_neg (by simp <;> omega)]
    | true =>
    conv => cbv
    by_cases h81 : 81 ≤ prev
    case neg =>
      have q5 : cmp .geq prev 81 = false := by rw [cmp_geq hA]; simp; omega
      simp only [q5]
      conv => cbv
      refine callP_in (fz := []) hP hA Try.func50 rfl (by decide) rfl ok50 (by simp [labL, lab]) ?_
      conv => cbv
      refine ld_at hA hcc 0 rfl ?_
      conv => cbv
      refine ⟨xs.length - (p + k2), ⟨R3, off', pos + 1, .pointer (some ad2), .slice a7 n7 c7, cnt + 20, op2⟩, by omega, ⟨⟨rfl, ?_, rfl, rfl, trivial⟩, rfl, ⟨rfl, trivial⟩, rfl, .refl _⟩, p + k2, _, ho, by omega, rfl, hto, RO.le_trans hR1 hR3, by show -1 ≤ pos + 1; omega, by show pos + 1 < ((p + k2 : Nat) : Int); omega,
        fun cs h => (by cases h), fun cs h => (by cases h), ?_, hop.1, hop.2⟩
      · have eN : bin .add .i64 cnt 20 = cnt + 20 := add_i64 hA (by omega)
        rw [eN]
        rfl
      rw [soS_snoc, hcnt]
      show (cnt + so1 _ prev op2, op2) = (cnt + 20, op2)
      rw [so1, if_neg (by omega), if_pos (by omega), if_neg (by simp <;> omega)]
    have q5 : cmp .geq prev 81 = true := by rw [cmp_geq hA]; simp; omega
    simp only [q5]
    conv => cbv
    by_cases h96 : prev ≤ 96
    case neg =>
      have q6 : cmp .leq prev 96 = false := by rw [cmp_leq hA]; simp; omega
      simp only [q6]
      conv => cbv
      refine callP_in (fz := []) hP hA Try.func50 rfl (by decide) rfl ok50 (by simp [labL, lab]) ?_
      conv => cbv
      refine ld_at hA hcc 0 rfl ?_
      conv => cbv
      refine ⟨xs.length - (p + k2), ⟨R3, off', pos + 1, .pointer (some ad2), .slice a7 n7 c7, cnt + 20, op2⟩, by omega, ⟨⟨rfl, ?_, rfl, rfl, trivial⟩, rfl, ⟨rfl, trivial⟩, rfl, .refl _⟩, p + k2, _, ho, by omega, rfl, hto, RO.le_trans hR1 hR3, by show -1 ≤ pos + 1; omega, by show pos + 1 < ((p + k2 : Nat) : Int); omega,
        fun cs h => (by cases h), fun cs h => (by cases h), ?_, hop.1, hop.2⟩
      · have eN : bin .add .i64 cnt 20 = cnt + 20 := add_i64 hA (by omega)
        rw [eN]
        rfl
      rw [soS_snoc, hcnt]
      show (cnt + so1 _ prev op2, op2) = (cnt + 20, op2)
      rw [so1, if_neg (by omega), if_pos (by omega), if_neg (by simp <;> omega)]
    have q6 : cmp .leq prev 96 = true := by rw [cmp_leq hA]; simp; omega
    simp only [q6]
    conv => cbv
    refine (asSmall hP R3 prev (prev - 80) hp0 hp1 (by rw [smallV, if_neg (by omega), if_pos ⟨h81, h96⟩])).callQ rfl ?_
    rintro _ ⟨W, rfl, hW⟩
    conv => cbv
    refine callP_in (fz := []) hP hA Try.func50 rfl (by decide) rfl ok50 (by simp [labL, lab]) ?_
    conv => cbv
    refine ld_at hA hcc 0 rfl ?_
    conv => cbv
    refine ⟨xs.length - (p + k2), ⟨R3, off', pos + 1, .pointer (some ad2), .slice a7 n7 c7, cnt + W, op2⟩, by omega, ⟨⟨rfl, ?_, rfl, rfl, trivial⟩, rfl, ⟨rfl, trivial⟩, rfl, .refl _⟩, p + k2, _, ho, by omega, rfl, hto, RO.le_trans hR1 hR3, by show -1 ≤ pos + 1; omega, by show pos + 1 < ((p + k2 : Nat) : Int); omega,
      fun cs h => (by cases h), fun cs h => (by cases h), ?_, hop.1, hop.2⟩
    · have eN : bin .add .i64 cnt W = cnt + W := add_i64 hA (by omega)
      rw [eN]
      rfl
    rw [soS_snoc, hcnt]
    show (cnt + so1 _ prev op2, op2) = (cnt + W, op2)
    rw [so1, if_neg (by omega), if_pos (by omega), if_pos ⟨rfl, h81, h96⟩, hW]
  · conv => cbv
    clear hb5
    conv => cbv
    cases pr with
    | false =>
      conv => cbv
      refine callP_in (fz := []) hP hA Try.func50 rfl (by decide) rfl ok50 (by simp [labL, lab]) ?_
      conv => cbv
      refine ld_at hA hcc 0 rfl ?_
      conv => cbv
      refine ⟨xs.length - (p + k2), ⟨R3, off', pos + 1, .pointer (some ad2), .slice a7 n7 c7, cnt + 20, op2⟩, by omega, ⟨⟨rfl, ?_, rfl, rfl, trivial⟩, rfl, ⟨rfl, trivial⟩, rfl, .refl _⟩, p + k2, _, ho, by omega, rfl, hto, RO.le_trans hR1 hR3, by show -1 ≤ pos + 1; omega, by show pos + 1 < ((p + k2 : Nat) : Int); omega,
        fun cs h => (by cases h), fun cs h => (by cases h), ?_, hop.1, hop.2⟩
      · have eN : bin .add .i64 cnt 20 = cnt + 20 := add_i64 hA (by omega)
        rw [eN]
        rfl
      rw [soS_snoc, hcnt]
      show (cnt + so1 _ prev op2, op2) = (cnt + 20, op2)
      rw [so1, if_neg (by omega), if_pos (by omega), if_neg (by simp <;> omega)]
    | true =>
    conv => cbv
    by_cases h81 : 81 ≤ prev
    case neg =>
      have q5 : cmp .geq prev 81 = false := by rw [cmp_geq hA]; simp; omega
      simp only [q5]
      conv => cbv
      refine callP_in (fz := []) hP hA Try.func50 rfl (by decide) rfl ok50 (by simp [labL, lab]) ?_
      conv => cbv
      refine ld_at hA hcc 0 rfl ?_
      conv => cbv
      refine ⟨xs.length - (p + k2), ⟨R3, off', pos + 1, .pointer (some ad2), .slice a7 n7 c7, cnt + 20, op2⟩, by omega, ⟨⟨rfl, ?_, rfl, rfl, trivial⟩, rfl, ⟨rfl, trivial⟩, rfl, .refl _⟩, p + k2, _, ho, by omega, rfl, hto, RO.le_trans hR1 hR3, by show -1 ≤ pos + 1; omega, by show pos + 1 < ((p + k2 : Nat) : Int); omega,
        fun cs h => (by cases h), fun cs h => (by cases h), ?_, hop.1, hop.2⟩
      · have eN : bin .add .i64 cnt 20 = cnt + 20 := add_i64 hA (by omega)
        rw [eN]
        rfl
      rw [soS_snoc, hcnt]
      show (cnt + so1 _ prev op2, op2) = (cnt + 20, op2)
      rw [so1, if_neg (by omega), if_pos (by omega), if_neg (by simp <;> omega)]
    have q5 : cmp .geq prev 81 = true := by rw [cmp_geq hA]; simp; omega
    simp only [q5]
    conv => cbv
    by_cases h96 : prev ≤ 96
    case neg =>
      have q6 : cmp .leq prev 96 = false := by rw [cmp_leq hA]; simp; omega
      simp only [q6]
      conv => cbv
      refine callP_in (fz := []) hP hA Try.func50 rfl (by decide) rfl ok50 (by simp [labL, lab]) ?_
      conv => cbv
      refine ld_at hA hcc 0 rfl ?_
      conv => cbv
      refine ⟨xs.length - (p + k2), ⟨R3, off', pos + 1, .pointer (some ad2), .slice a7 n7 c7, cnt + 20, op2⟩, by omega, ⟨⟨rfl, ?_, rfl, rfl, trivial⟩, rfl, ⟨rfl, trivial⟩, rfl, .refl _⟩, p + k2, _, ho, by omega, rfl, hto, RO.le_trans hR1 hR3, by show -1 ≤ pos + 1; omega, by show pos + 1 < ((p + k2 : Nat) : Int); omega,
        fun cs h => (by cases h), fun cs h => (by cases h), ?_, hop.1, hop.2⟩
      · have eN : bin .add .i64 cnt 20 = cnt + 20 := add_i64 hA (by omega)
        rw [eN]
        rfl
      rw [soS_snoc, hcnt]
      show (cnt + so1 _ prev op2, op2) = (cnt + 20, op2)
      rw [so1, if_neg (by omega), if_pos (by omega), if_neg (by simp <;> omega)]
    have q6 : cmp .leq prev 96 = true := by rw [cmp_leq hA]; simp; omega
    simp only [q6]
    conv => cbv
    refine (asSmall hP R3 prev (prev - 80) hp0 hp1 (by rw [smallV, if_neg (by omega), if_pos ⟨h81, h96⟩])).callQ rfl ?_
    rintro _ ⟨W, rfl, hW⟩
    conv => cbv
    refine callP_in (fz := []) hP hA Try.func50 rfl (by decide) rfl ok50 (by simp [labL, lab]) ?_
    conv => cbv
    refine ld_at hA hcc 0 rfl ?_
    conv => cbv
    refine ⟨xs.length - (p + k2), ⟨R3, off', pos + 1, .pointer (some ad2), .slice a7 n7 c7, cnt + W, op2⟩, by omega, ⟨⟨rfl, ?_, rfl, rfl, trivial⟩, rfl, ⟨rfl, trivial⟩, rfl, .refl _⟩, p + k2, _, ho, by omega, rfl, hto, RO.le_trans hR1 hR3, by show -1 ≤ pos + 1; omega, by show pos + 1 < ((p + k2 : Nat) : Int); omega,
      fun cs h => (by cases h), fun cs h => (by cases h), ?_, hop.1, hop.2⟩
    · have eN : bin .add .i64 cnt W = cnt + W := add_i64 hA (by omega)
      rw [eN]
      rfl
    rw [soS_snoc, hcnt]
    show (cnt + so1 _ prev op2, op2) = (cnt + W, op2)
    rw [so1, if_neg (by omega), if_pos (by omega), if_pos ⟨rfl, h81, h96⟩, hW]

set_option maxRecDepth 100000 in
set_option maxHeartbeats 4000000 in
theorem pushOnlyP {P : Program} (hP : P = Try.prog) (R : RO) (a : Option Addr) (n c : Nat) (xs : List Int) (h : RI R .u8 a n xs) (hn : n ≤ 100000) (hc : n ≤ c) :
    RetP P 33 [.slice a n c] R fun _ v => ∃ r, v = .bool r ∧ (r = true ↔ PO xs) := by
  subst hP
  have hl := h.len
  refine retP_vc (fz := []) Try.func33 rfl (by decide) rfl ok33 ?_
  intro P bin cmp cnv neg com bnot beq ofN toN at_ sub_ scmp cat sget ssz ssub elem fld_ hP hA
  conv => cbv
  have hOp' : OpSpec P := by rw [hP]; exact opSpec
  refine callP_in (fz := []) hP hA Try.func39 rfl (by decide) rfl ok39 (by simp [labL, lab]) ?_
  conv => cbv
  refine br_f (by rw [cmp_neq hA]; rfl) ?_
  conv => cbv
  refine ⟨Lp2, fun x => ⟨[(3, .p 1 0)], x.R, [(1, ⟨78, [.v (.slice a n c), .v (.int .u16 0), .v (.int .i32 x.off), .v (.int .i32 x.pos), .v x.op, .v x.d, .v .nilIface]⟩)], 2, []⟩,
    fun k x => ∃ (p : Nat) (l : List Tok), x.off = p ∧ p ≤ xs.length ∧ k = xs.length - p ∧ Toks xs l p ∧ R.le x.R ∧ -1 ≤ x.pos ∧ x.pos < p ∧ (∀ cs, x.op ≠ .agg cs) ∧ (∀ cs, x.d ≠ .agg cs) ∧ ∀ t ∈ l, t.op ≤ 96,
    ⟨xs.length, ⟨R, 0, -1, .pointer none, .slice none 0 0⟩, ⟨⟨rfl, trivial⟩, rfl, ⟨rfl, trivial⟩, rfl, .refl _⟩, 0, [], rfl, by omega, rfl, .nil, RO.le_refl _, Int.le_refl (-1), (by decide : (-1 : Int) < ((0 : Nat) : Int)), fun cs h => (by cases h), fun cs h => (by cases h), fun t ht => (by cases ht)⟩, ?_⟩
  rintro k ⟨R1, off, pos, opv, dv⟩ ⟨p, l, hoff, hp, hk, ht, hR1, hpos, hpos2, hov, hdv, hall⟩
  simp only at hoff hR1 hpos hpos2 hov hdv
  have htl := ht.le
  conv => cbv
  refine CallP.lend (next hP hOp' R1 a n c xs (h.le hR1) hn hc p off pos hoff hp ⟨hpos, hpos2⟩ opv dv hov hdv) rfl rfl ?_
  intro R3 hp' nx' rs' r hR3 hout
  rcases hout () with ⟨op2, d2, k2, ad2, s2, a7, n7, c7, off', hx, hst, rfl, ho, hf, hcc, h7, hiff, -⟩ | ⟨off', pos', op2, d2, er, rfl, hoe, hf, hend⟩
  case inr =>
    refine ⟨_, _, _, hf, rfl, rfl, ?_⟩
    conv => cbv
    refine callP_in (fz := []) hP hA Try.func44 rfl (by decide) rfl ok44 (by simp [labL, lab]) ?_
    conv => cbv
    rcases hend with ⟨hpe, rfl⟩ | ⟨hpl, hst, s, rfl⟩
    · conv => cbv
      intro ρ R'' _ _ _
      exact ⟨_, rfl, fun _ => ⟨l, by rw [hpe] at ht; exact ht, hall⟩, fun _ => rfl⟩
    · conv => cbv
      intro ρ R'' _ _ _
      refine ⟨_, rfl, by simp, ?_⟩
      rintro ⟨l', h1, _⟩
      have := (ht.one (.inr hst) h1 (stuck_end rfl)).2
      omega
  refine ⟨_, _, _, hf, rfl, rfl, ?_⟩
  conv => cbv
  have hto := ht.snoc hx hst
  have hop := wf_u8 (h.wf op2 (List.mem_of_getElem? hx))
  have hle2 := hto.le
  have hks := stepT_le hst
  refine callP_in (fz := []) hP hA Try.func50 rfl (by decide) rfl ok50 (by simp [labL, lab]) ?_
  conv => cbv
  refine ld_at hA hcc 0 rfl ?_
  conv => cbv
  by_cases h96 : op2 ≤ 96
  case neg =>
    refine br_t (by rw [cmp_gtr hA]; simp; omega) ?_
    conv => cbv
    intro ρ R'' _ _ _
    refine ⟨_, rfl, by simp, ?_⟩
    rintro ⟨l', h1, h2⟩
    exfalso
    obtain ⟨r, hr⟩ := hto.begins h1 (stuck_end rfl)
    have := h2 ⟨op2, d2, p⟩ (by rw [← hr]; simp)
    simp only at this
    omega
  refine br_f (by rw [cmp_gtr hA]; simp; omega) ?_
  conv => cbv
  refine ⟨xs.length - (p + k2), ⟨R3, off', pos + 1, .pointer (some ad2), .slice a7 n7 c7⟩, by omega, ⟨⟨rfl, trivial⟩, rfl, ⟨rfl, trivial⟩, rfl, .refl _⟩, p + k2, _, ho, by omega, rfl, hto, RO.le_trans hR1 hR3, by show -1 ≤ pos + 1; omega, by show pos + 1 < ((p + k2 : Nat) : Int); omega,
    fun cs h => (by cases h), fun cs h => (by cases h), fun t ht => ?_⟩
  rcases List.mem_append.1 ht with ht | ht
  · exact hall t ht
  · simp at ht
    rw [ht]
    exact h96

set_option maxRecDepth 100000 in
set_option maxHeartbeats 4000000 in
theorem finalP {P : Program} (hP : P = Try.prog) (R : RO) (a : Option Addr) (n c : Nat) (xs : List Int) (h : RI R .u8 a n xs) (hn : n ≤ 100000) (hc : n ≤ c) (L : List Tok) (t : Tok) (hL : Toks xs (L ++ [t]) xs.length) :
    RetP P 34 [.int .u16 0, .slice a n c] R fun R' v => ∃ a2 n2 c2, v = .slice a2 n2 c2 ∧ RI R' .u8 a2 n2 t.data ∧ n2 ≤ c2 ∧ n2 ≤ 100000 := by
  subst hP
  have hl := h.len
  have hLl := hL.le
  have htd := hL.data_le t (by simp)
  simp at hLl
  refine retP_vc (fz := []) Try.func34 rfl (by decide) rfl ok34 ?_
  intro P bin cmp cnv neg com bnot beq ofN toN at_ sub_ scmp cat sget ssz ssub elem fld_ hP hA
  conv => cbv
  have hOp' : OpSpec P := by rw [hP]; exact opSpec
  have o := ofN_ hA n
  refine br_f (by rw [o, cmp_eql hA]; simp; omega) ?_
  conv => cbv
  refine callP_in (fz := []) hP hA Try.func39 rfl (by decide) rfl ok39 (by simp [labL, lab]) ?_
  conv => cbv
  refine br_f (by rw [cmp_neq hA]; rfl) ?_
  conv => cbv
  refine ⟨Lf, fun x => ⟨[(6, .p 1 0), (5, .v (.slice x.a x.n x.c))], x.R, [(1, ⟨78, [.v (.slice a n c), .v (.int .u16 0), .v (.int .i32 x.off), .v (.int .i32 x.pos), .v x.op, .v x.d, .v .nilIface]⟩)], 2, []⟩,
    fun k x => ∃ (p : Nat) (l : List Tok), x.off = p ∧ p ≤ xs.length ∧ k = xs.length - p ∧ Toks xs l p ∧ R.le x.R ∧ -1 ≤ x.pos ∧ x.pos < p ∧ (∀ cs, x.op ≠ .agg cs) ∧ (∀ cs, x.d ≠ .agg cs) ∧ (l = [] ∨ ∃ l' u, l = l' ++ [u] ∧ RI x.R .u8 x.a x.n u.data ∧ x.n ≤ x.c),
    ⟨xs.length, ⟨R, 0, -1, .pointer none, .slice none 0 0, none, 0, 0⟩, ⟨⟨rfl, rfl, trivial⟩, rfl, ⟨rfl, trivial⟩, rfl, .refl _⟩, 0, [], rfl, by omega, rfl, .nil, RO.le_refl _, Int.le_refl (-1), (by decide : (-1 : Int) < ((0 : Nat) : Int)), fun cs h => (by cases h), fun cs h => (by cases h), .inl rfl⟩, ?_⟩
  rintro k ⟨R1, off, pos, opv, dv, a4, n4, c4⟩ ⟨p, l, hoff, hp, hk, ht, hR1, hpos, hpos2, hov, hdv, hlast⟩
  simp only at hoff hR1 hpos hpos2 hov hdv hlast
  have htl := ht.le
  conv => cbv
  refine CallP.lend (next hP hOp' R1 a n c xs (h.le hR1) hn hc p off pos hoff hp ⟨hpos, hpos2⟩ opv dv hov hdv) rfl rfl ?_
  intro R3 hp' nx' rs' r hR3 hout
  rcases hout () with ⟨op2, d2, k2, ad2, s2, a7, n7, c7, off', hx, hst, rfl, ho, hf, hcc, h7, hiff, h77⟩ | ⟨off', pos', op2, d2, er, rfl, hoe, hf, hend⟩
  case inr =>
    refine ⟨_, _, _, hf, rfl, rfl, ?_⟩
    conv => cbv
    refine callP_in (fz := []) hP hA Try.func44 rfl (by decide) rfl ok44 (by simp [labL, lab]) ?_
    conv => cbv
    rcases hend with ⟨hpe, rfl⟩ | ⟨hpl, hst, s, rfl⟩
    · conv => cbv
      refine br_f (by rw [bnot_ hA]; rfl) ?_
      conv => cbv
      intro ρ R'' _ _ _
      rename_i hle _ _
      obtain ⟨rfl, _⟩ := ht.one (stuck_end hpe) hL (stuck_end rfl)
      rcases hlast with h0 | ⟨l', u, he, h1, h2⟩
      · simp at h0
      have hu := List.append_inj' he rfl
      simp at hu
      have h1l := h1.len
      rw [hu.2] at htd ⊢
      exact ⟨_, _, _, rfl, (h1.le hR3).le hle, h2, by omega⟩
    · have := (ht.one (.inr hst) hL (stuck_end rfl)).2
      omega
  refine ⟨_, _, _, hf, rfl, rfl, ?_⟩
  conv => cbv
  have hto := ht.snoc hx hst
  have hle2 := hto.le
  have hks := stepT_le hst
  refine callP_in (fz := []) hP hA Try.func42 rfl (by decide) rfl ok42 (by simp [labL, lab]) ?_
  conv => cbv
  refine ⟨xs.length - (p + k2), ⟨R3, off', pos + 1, .pointer (some ad2), .slice a7 n7 c7, a7, n7, c7⟩, by omega, ⟨⟨rfl, rfl, trivial⟩, rfl, ⟨rfl, trivial⟩, rfl, .refl _⟩, p + k2, _, ho, by omega, rfl, hto, RO.le_trans hR1 hR3, by show -1 ≤ pos + 1; omega, by show pos + 1 < ((p + k2 : Nat) : Int); omega,
    fun cs h => (by cases h), fun cs h => (by cases h), .inr ⟨_, _, rfl, h7, h77⟩⟩


set_option maxRecDepth 100000 in
theorem paysP {P : Program} (hP : P = Try.prog) (R : RO) (a : Option Addr) (n c : Nat) (xs : List Int) (h : RI R .u8 a n xs) (hn : n ≤ 100000) (hc : n ≤ c) :
    RetP P 32 [.slice a n c] R fun _ v => ∃ r, v = .bool r ∧ (r = true ↔ Pays xs) := by
  subst hP
  have hl := h.len
  refine retP_vc (fz := []) Try.func32 rfl (by decide) rfl ok32 ?_
  intro P bin cmp cnv neg com bnot beq ofN toN at_ sub_ scmp cat sget ssz ssub elem fld_ hP hA
  conv => cbv
  refine callP_in (fz := []) hP hA Try.func58 rfl (by decide) rfl ok58 (by simp [labL, lab]) ?_
  conv => cbv
  have o := ofN_ hA n
  by_cases h23 : n = 23
  case neg =>
    have q1 : cmp .eql (ofN n) 23 = false := by rw [o, cmp_eql hA]; simp; omega
    simp only [q1]
    conv => cbv
    intro ρ R'' _ _ _
    refine ⟨_, rfl, fun hb => absurd hb (by show bnot true ≠ true; rw [bnot_ hA]; decide), fun hx => ?_⟩
    exfalso
    obtain ⟨x1, x2, x3, x4⟩ := hx
    omega
  have q1 : cmp .eql (ofN n) 23 = true := by rw [o, cmp_eql hA]; simp; omega
  simp only [q1]
  conv => cbv
  have hso := (h.at_ 0 (by omega) (by omega)).1
  refine ix_u8 hA h 0 rfl (by omega) ?_
  refine ld_u8 hA h (by omega) (by omega) ?_
  intro b hb b0 b1
  replace hb : b = xs.getD 0 0 := hb
  conv => cbv
  by_cases g0 : b = 169
  case neg =>
    have q2 : cmp .eql b 169 = false := by rw [cmp_eql hA]; simp; omega
    simp only [q2]
    conv => cbv
    intro ρ R'' _ _ _
    refine ⟨_, rfl, fun hb => absurd hb (by show bnot true ≠ true; rw [bnot_ hA]; decide), fun hx => ?_⟩
    exfalso
    obtain ⟨x1, x2, x3, x4⟩ := hx
    omega
  have q2 : cmp .eql b 169 = true := by rw [cmp_eql hA]; simp; omega
  simp only [q2]
  conv => cbv
  refine ix_u8 hA h 1 rfl (by omega) ?_
  refine ld_u8 hA h (by omega) (by omega) ?_
  intro b' hb' b0' b1'
  replace hb' : b' = xs.getD 1 0 := hb'
  conv => cbv
  by_cases g1 : b' = 20
  case neg =>
    have q3 : cmp .eql b' 20 = false := by rw [cmp_eql hA]; simp; omega
    simp only [q3]
    conv => cbv
    intro ρ R'' _ _ _
    refine ⟨_, rfl, fun hb => absurd hb (by show bnot true ≠ true; rw [bnot_ hA]; decide), fun hx => ?_⟩
    exfalso
    obtain ⟨x1, x2, x3, x4⟩ := hx
    omega
  have q3 : cmp .eql b' 20 = true := by rw [cmp_eql hA]; simp; omega
  simp only [q3]
  conv => cbv
  refine ix_u8 hA h 22 rfl (by omega) ?_
  refine ld_u8 hA h (by omega) (by omega) ?_
  intro b'' hb'' b0'' b1''
  replace hb'' : b'' = xs.getD 22 0 := hb''
  conv => cbv
  by_cases g2 : b'' = 135
  case neg =>
    refine br_f (by rw [cmp_eql hA]; simp; omega) ?_
    conv => cbv
    intro ρ R'' _ _ _
    refine ⟨_, rfl, fun hb => absurd hb (by show bnot true ≠ true; rw [bnot_ hA]; decide), fun hx => ?_⟩
    exfalso
    obtain ⟨x1, x2, x3, x4⟩ := hx
    omega
  refine br_t (by rw [cmp_eql hA]; simp; omega) ?_
  conv => cbv
  refine ⟨2, 22, rfl, rfl, by omega, by omega, ?_⟩
  intro a2 n2 c2 hn2 hc2 ha2
  obtain ⟨ad, rfl⟩ := Option.isSome_iff_exists.1 hso
  obtain ⟨ad2, rfl⟩ : ∃ x, a2 = some x := by rw [ha2]; split <;> exact ⟨_, rfl⟩
  conv => cbv
  intro ρ R'' _ _ _
  exact ⟨_, rfl, fun _ => ⟨by omega, by omega, by omega, by omega⟩, fun _ => by show bnot false = true; rw [bnot_ hA]; rfl⟩
end Go.Proofs.Ytbakdoienfmacaa.Tk
