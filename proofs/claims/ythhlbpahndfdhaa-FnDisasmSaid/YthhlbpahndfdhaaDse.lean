/- The tokenizer: the next token, with its name. -/
import Derived.Test.YthhlbpahndfdhaaTkd
import Derived.Test.YthhlbpahndfdhaaDsp
set_option linter.unusedSimpArgs false
set_option linter.unusedVariables false
namespace Go.Proofs.Ythhlbpahndfdhaa.Tk
open Go Go.Se Go.Proofs Go.Proofs.Ythhlbpahndfdhaa.Tytok

/-- How long an opcode is with what it pushes; below 0: so many bytes tell it. -/
def opl (b : Int) : Int := if 1 ≤ b ∧ b ≤ 75 then b + 1 else if b = 76 then -1 else if b = 77 then -2 else if b = 78 then -4 else 1

/-- The table of opcodes. -/
def OpSpec (P : Program) : Prop := ∀ (R : RO) (x : Int), 0 ≤ x → x ≤ 255 → RetP P 26 [.int .u8 x] R fun R' v => ∃ ad, v = .pointer (some ad) ∧ CellsAt R' ad [.int .u8 x, .string (Ds.nmB x), .int .i64 (opl x)]

/-- The tokenizer's cells. -/
def tcells (a : Option Addr) (n c : Nat) (off pos : Int) (op d er : Value) : List Value := [.slice a n c, .int .u16 0, .int .i32 off, .int .i32 pos, op, d, er]

/-- What the next token leaves behind. -/
def NextOut (xs : List Int) (p : Nat) (a : Option Addr) (n c : Nat) (pos : Int) (R' : RO) (hp' : List (Nat × HB)) (r : SV) : Prop :=
  (∃ op d k ad a3 n3 c3 off', xs[p]? = some op ∧ stepT (xs.drop p) = some (d, k) ∧ r = .v (.bool true) ∧ off' = ((p + k : Nat) : Int) ∧
    find hp' 0 = some ⟨48, (tcells a n c off' (pos + 1) (.pointer (some ad)) (.slice a3 n3 c3) .nilIface).map SV.v⟩ ∧ CellsAt R' ad [.int .u8 op, .string (Ds.nmB op), .int .i64 (opl op)] ∧ RI R' .u8 a3 n3 d ∧ (a3.isSome = true ↔ 1 ≤ op ∧ op ≤ 78) ∧ n3 ≤ c3) ∨
  (∃ off' pos' op d er, r = .v (.bool false) ∧ off' = (p : Int) ∧ find hp' 0 = some ⟨48, (tcells a n c off' pos' op d er).map SV.v⟩ ∧ ((p = xs.length ∧ er = .nilIface) ∨ (p < xs.length ∧ stepT (xs.drop p) = none ∧ ∃ s, er = .iface 61 (.agg #[.int .i64 27, .string s]))))


set_option maxRecDepth 100000 in
set_option maxHeartbeats 4000000 in
theorem next {P : Program} (hP : P = Try.prog) (hOp : OpSpec P) (R : RO) (a : Option Addr) (n c : Nat) (xs : List Int) (h : RI R .u8 a n xs) (hn : n ≤ 100000) (hc : n ≤ c) (p : Nat) (off pos : Int) (hoff : off = p) (hp : p ≤ xs.length) (hpos : -1 ≤ pos ∧ pos < p) (opv dv : Value) (hov : ∀ cs, opv ≠ .agg cs) (hdv : ∀ cs, dv ≠ .agg cs) :
    CallP P 14 [.p 0 0] R [(0, ⟨48, (tcells a n c off pos opv dv .nilIface).map SV.v⟩)] 1 [] fun R' hp' _ _ r => ∀ _ : Unit, NextOut xs p a n c pos R' hp' r := by
  subst hP
  have hl := h.len
  refine callP_vc (fz := []) Try.func14 rfl (by decide) rfl ok14 rfl ?_
  intro P bin cmp cnv neg com bnot beq ofN toN at_ sub_ scmp cat sget ssz ssub elem fld_ hP hA
  conv => cbv
  have o := ofN_ hA n
  refine callP_in (fz := []) hP hA Try.func25 rfl (by decide) rfl ok25 (by simp [labL, lab]) ?_
  conv => cbv
  refine ⟨[0, 1, 2, 3, 4, 5, 6, 7, 8, 9, 10, 11, 12, 13, 14, 15, 16, 17, 18], [], mix hP, by kernel_rfl, ?_⟩
  conv => cbv
  have bt : bnot true = false := by rw [bnot_ hA]; rfl
  simp only [bt]
  conv => cbv
  have en : cnv .i32 (ofN n) = n := by rw [o]; exact cnv_i32 hA (by omega)
  by_cases hlt : p < xs.length
  case neg =>
    refine br_t (by rw [en, cmp_geq hA]; simp; omega) ?_
    conv => cbv
    exact fun _ => .inr ⟨off, pos, opv, dv, .nilIface, rfl, hoff, rfl, .inl ⟨by omega, rfl⟩⟩
  refine br_f (by rw [en, cmp_geq hA]; simp; omega) ?_
  conv => cbv
  have ep : bin .add .i32 pos 1 = pos + 1 := add_i32 hA (by omega)
  generalize bin .add .i32 pos 1 = pos1 at ep ⊢
  refine ⟨[0, 1, 2, 3, 4, 5, 6, 7, 8, 9, 10, 11], [10], mix hP, by kernel_rfl, ?_⟩
  conv => cbv
  refine ix_u8 hA h p hoff (by omega) ?_
  refine ld_u8 hA h (by omega) (by omega) ?_
  intro op hop op0 op1
  rw [show off.toNat = p by omega] at hop
  conv => cbv
  have hxp : xs[p]? = some op := by rw [List.getElem?_eq_getElem hlt, hop, List.getD_eq_getElem?_getD, List.getElem?_eq_getElem hlt]; rfl
  obtain ⟨rest, hrest⟩ : ∃ rest, rest = xs.drop (p + 1) := ⟨_, rfl⟩
  have hdr : xs.drop p = op :: rest := by rw [drop_get hlt, hop, hrest]
  have hrl : rest.length = xs.length - (p + 1) := by rw [hrest]; simp
  have hsm : a.isSome = true := (h.at_ p (by omega) (by omega)).1
  have hOp' : OpSpec P := by rw [hP]; exact hOp
  refine (hOp' R op op0 op1).callP rfl ?_
  rintro R1 _ hR1 ⟨ad, rfl, hcl⟩
  obtain ⟨L, hL⟩ : ∃ L, L = opl op := ⟨_, rfl⟩
  have hcl0 := hcl
  rw [← hL] at hcl
  conv => cbv
  refine ld_at hA hcl 2 rfl ?_
  conv => cbv
  by_cases hz : 1 ≤ op ∧ op ≤ 78
  case neg =>
    have hL1 : L = 1 := by rw [hL, opl, if_neg (by omega), if_neg (by omega), if_neg (by omega), if_neg (by omega)]
    refine br_t (by rw [hL1, cmp_eql hA]; rfl) ?_
    conv => cbv
    have hst : stepT (xs.drop p) = some ([], 1) := by rw [hdr, stepT, if_neg (by omega), if_neg (by omega)]
    refine fun _ => .inl ⟨op, [], 1, ad, none, 0, 0, bin .add .i32 off 1, hxp, hst, rfl, ?_, ?_, hcl0, RI.nil, ?_, by omega⟩
    · rw [add_i32 hA (by omega)]; omega
    · rw [← ep]; rfl
    · simp [hz]
  have hLne : L ≠ 1 := by rw [hL, opl]; repeat' split <;> omega
  refine br_f (by rw [cmp_eql hA]; simp; omega) ?_
  conv => cbv
  refine ld_at hA hcl 2 rfl ?_
  conv => cbv
  by_cases h75 : op ≤ 75
  · have hLv : L = op + 1 := by rw [hL, opl, if_pos (by omega)]
    refine br_t (by rw [cmp_gtr hA]; simp; omega) ?_
    conv => cbv
    refine ⟨[0, 1, 2, 3, 4, 5, 6, 7, 8, 9], [], mix hP, by kernel_rfl, ?_⟩
    conv => cbv
    refine ⟨p, n, by rw [hoff]; rfl, rfl, by omega, by omega, ?_⟩
    intro a2 n2 c2 hn2 hc2 ha2
    conv => cbv
    have h2 := (h.le hR1).part' (l := p) (m := n) (by omega) (by omega) hn2 hc ha2
    rw [List.take_of_length_le (by simp; omega), hdr] at h2
    have o2 := ofN_ hA n2
    refine ld_at hA hcl 2 rfl ?_
    conv => cbv
    by_cases hsh : rest.length < op.toNat
    · refine br_t (by rw [o2, cmp_lss hA]; simp; omega) ?_
      conv => cbv
      have hst : stepT (xs.drop p) = none := by rw [hdr, stepT, if_pos (by omega), if_pos hsh]
      refine callP_in (fz := []) hP hA Try.func24 rfl (by decide) rfl ok24 (by simp [labL, lab]) ?_
      conv => cbv
      exact fun _ => .inr ⟨off, pos1, opv, dv, _, rfl, hoff, rfl, .inr ⟨hlt, hst, _, rfl⟩⟩
    refine br_f (by rw [o2, cmp_lss hA]; simp; omega) ?_
    conv => cbv
    have hst : stepT (xs.drop p) = some (rest.take op.toNat, 1 + op.toNat) := by rw [hdr, stepT, if_pos (by omega), if_neg hsh]
    refine ⟨[0, 1, 2, 3, 4, 5, 6, 7, 8, 9, 10, 11, 12], [12], mix hP, by kernel_rfl, ?_⟩
    conv => cbv
    refine ld_at hA hcl 2 rfl ?_
    conv => cbv
    refine ld_at hA hcl 2 rfl ?_
    conv => cbv
    refine ⟨1, op.toNat + 1, rfl, by show ((op.toNat + 1 : Nat) : Int) = L; omega, by omega, by omega, ?_⟩
    intro a3 n3 c3 hn3 hc3 ha3
    conv => cbv
    have h3 := h2.part' (l := 1) (m := op.toNat + 1) (by omega) (by omega) hn3 (by omega) ha3
    simp only [List.drop_succ_cons, List.drop_zero, Nat.add_sub_cancel] at h3
    refine fun _ => .inl ⟨op, _, 1 + op.toNat, ad, a3, n3, c3, bin .add .i32 off (cnv .i32 L), hxp, hst, rfl, ?_, ?_, hcl0, h3, ?_, by omega⟩
    · have e1 : cnv .i32 L = L := cnv_i32 hA (by omega)
      rw [e1, add_i32 hA (by omega)]; omega
    · rw [← ep]; rfl
    · refine ⟨fun _ => hz, fun _ => ?_⟩
      have hs2 : a2.isSome = true := by rw [ha2]; split <;> simp [hsm]
      rw [ha3]; split <;> simp [hs2]
  have hLv : L = -((width op : Nat) : Int) := by
    rw [hL, opl, if_neg (by omega), width]
    by_cases x1 : op = 76
    · rw [if_pos x1, if_pos x1]; rfl
    rw [if_neg x1, if_neg x1]
    by_cases x2 : op = 77
    · rw [if_pos x2, if_pos x2]; rfl
    rw [if_neg x2, if_neg x2, if_pos (by omega)]; rfl
  have hw4 : 1 ≤ width op ∧ width op ≤ 4 := by unfold width; repeat' split <;> try omega
  refine br_f (by rw [cmp_gtr hA]; simp; omega) ?_
  conv => cbv
  refine ld_at hA hcl 2 rfl ?_
  conv => cbv
  refine br_t (by rw [cmp_lss hA]; simp; omega) ?_
  conv => cbv
  refine ⟨[0, 1, 2, 3, 4, 5, 6, 7, 8, 9, 10], [], mix hP, by kernel_rfl, ?_⟩
  conv => cbv
  have eo : bin .add .i32 off 1 = ((p + 1 : Nat) : Int) := by rw [add_i32 hA (by omega)]; omega
  refine ⟨p + 1, n, by rw [eo]; rfl, rfl, by omega, by omega, ?_⟩
  intro a2 n2 c2 hn2 hc2 ha2
  conv => cbv
  have h2 := (h.le hR1).part' (l := p + 1) (m := n) (by omega) (by omega) hn2 hc ha2
  rw [List.take_of_length_le (by simp; omega), ← hrest] at h2
  have o2 := ofN_ hA n2
  have hl2 := h2.len
  have hs2 : a2.isSome = true := by rw [ha2]; split <;> simp [hsm]
  refine ld_at hA hcl 2 rfl ?_
  conv => cbv
  have eneg : neg .i64 L = ((width op : Nat) : Int) := by rw [neg_ hA, w_i64 (by omega)]; omega
  by_cases hlw : rest.length < width op
  · refine br_t (by rw [eneg, o2, cmp_lss hA]; simp; omega) ?_
    conv => cbv
    have hst : stepT (xs.drop p) = none := by rw [hdr, stepT, if_neg (by omega), if_pos (by omega), if_pos hlw]
    refine callP_in (fz := []) hP hA Try.func24 rfl (by decide) rfl ok24 (by simp [labL, lab]) ?_
    conv => cbv
    exact fun _ => .inr ⟨off, pos1, opv, dv, _, rfl, hoff, rfl, .inr ⟨hlt, hst, _, rfl⟩⟩
  refine br_f (by rw [eneg, o2, cmp_lss hA]; simp; omega) ?_
  conv => cbv
  refine ld_at hA hcl 2 rfl ?_
  conv => cbv
  obtain ⟨K, hK⟩ : ∃ K, K = (wordN (rest.take (width op))).toNat := ⟨_, rfl⟩
  have hwr := wordN_u32 (l := rest.take (width op)) (fun x hx => h2.wf x (List.mem_of_mem_take hx)) (by simp; omega)
  have hst : stepT (xs.drop p) = if rest.length - width op < K then none else some ((rest.drop (width op)).take K, 1 + width op + K) := by rw [hdr, stepT, if_neg (by omega), if_pos (by omega), if_neg hlw, ← hK]
  by_cases x1 : op = 76
  · have hw : width op = 1 := by rw [width, if_pos x1]
    refine br_t (by rw [hLv, hw, cmp_eql hA]; rfl) ?_
    conv => cbv
    refine ix_u8 hA h2 0 rfl (by omega) ?_
    refine ld_u8 hA h2 (by omega) (by omega) ?_
    intro b hb b0 b1
    conv => cbv
    have hKb : (K : Int) = b := by
      have : rest.take 1 = [rest.getD 0 0] := by
        match rest, (by omega : 1 ≤ rest.length) with
        | x :: r, _ => rfl
      have hb' : b = rest.getD 0 0 := hb
      rw [hK, hw, this, ← hb']
      simp only [wordN]
      omega
    have hDI : cnv .i32 b = (K : Int) ∨ (2147483648 ≤ K ∧ cnv .i32 b < 0) := .inl (by rw [cnv_i32 hA (by omega), hKb])
    generalize cnv .i32 b = DI at hDI ⊢
    refine ld_at hA hcl 2 rfl ?_
    conv => cbv
    refine ⟨width op, n2, by rw [eneg]; rfl, rfl, by omega, by omega, ?_⟩
    intro a6 n6 c6 hn6 hc6 ha6
    conv => cbv
    have h6 := h2.part' (l := width op) (m := n2) (by omega) (by omega) hn6 (by omega) ha6
    have e6 : cnv .i32 (ofN n6) = (n6 : Int) := by rw [ofN_ hA]; exact cnv_i32 hA (by omega)
    by_cases hbad : rest.length - width op < K
    · rw [if_pos hbad] at hst
      have hor : cmp .gtr DI (cnv .i32 (ofN n6)) = true ∨ (cmp .gtr DI (cnv .i32 (ofN n6)) = false ∧ cmp .lss DI 0 = true) := by
        rw [e6, cmp_gtr hA, cmp_lss hA]
        rcases hDI with hd | ⟨_, hd⟩
        · exact .inl (by simp; omega)
        · exact .inr ⟨by simp; omega, by simp; omega⟩
      rcases hor with q1 | ⟨q1, q2⟩
      · simp only [q1]
        conv => cbv
        refine callP_in (fz := []) hP hA Try.func24 rfl (by decide) rfl ok24 (by simp [labL, lab]) ?_
        conv => cbv
        exact fun _ => .inr ⟨off, pos1, opv, dv, _, rfl, hoff, rfl, .inr ⟨hlt, hst, _, rfl⟩⟩
      · simp only [q1]
        conv => cbv
        simp only [q2]
        conv => cbv
        refine callP_in (fz := []) hP hA Try.func24 rfl (by decide) rfl ok24 (by simp [labL, lab]) ?_
        conv => cbv
        exact fun _ => .inr ⟨off, pos1, opv, dv, _, rfl, hoff, rfl, .inr ⟨hlt, hst, _, rfl⟩⟩
    rw [if_neg hbad] at hst
    have hDK : DI = (K : Int) := by
      rcases hDI with hd | ⟨hd, _⟩
      · exact hd
      · omega
    have q1 : cmp .gtr DI (cnv .i32 (ofN n6)) = false := by rw [e6, cmp_gtr hA]; simp; omega
    have q2 : cmp .lss DI 0 = false := by rw [cmp_lss hA]; simp; omega
    simp only [q1]
    conv => cbv
    simp only [q2]
    conv => cbv
    refine ⟨[0, 1, 2, 3, 4, 5, 6, 7, 8, 9, 10, 11, 12, 13, 14, 15, 16], [16], mix hP, by kernel_rfl, ?_⟩
    conv => cbv
    refine ld_at hA hcl 2 rfl ?_
    conv => cbv
    refine ⟨0, K, rfl, by rw [hDK]; rfl, by omega, by omega, ?_⟩
    intro a7 n7 c7 hn7 hc7 ha7
    conv => cbv
    have h7 := h6.part' (l := 0) (m := K) (by omega) (by omega) hn7 (by omega) ha7
    rw [List.drop_zero, Nat.sub_zero, List.take_take, Nat.min_eq_left (by omega)] at h7
    refine fun _ => .inl ⟨op, _, 1 + width op + K, ad, a7, n7, c7, bin .add .i32 off (bin .add .i32 (bin .add .i32 1 (cnv .i32 (neg .i64 L))) DI), hxp, hst, rfl, ?_, ?_, hcl0, h7, ?_, by omega⟩
    · have g1 : cnv .i32 (neg .i64 L) = ((width op : Nat) : Int) := by rw [eneg]; exact cnv_i32 hA (by omega)
      have g2 : bin .add .i32 1 (cnv .i32 (neg .i64 L)) = 1 + ((width op : Nat) : Int) := by rw [g1]; exact add_i32 hA (by omega)
      have g3 : bin .add .i32 (bin .add .i32 1 (cnv .i32 (neg .i64 L))) DI = 1 + ((width op : Nat) : Int) + K := by rw [g2, hDK]; exact add_i32 hA (by omega)
      rw [g3, add_i32 hA (by omega)]
      omega
    · rw [← ep]; rfl
    · refine ⟨fun _ => hz, fun _ => ?_⟩
      have hs6 : a6.isSome = true := by rw [ha6]; split <;> simp [hs2]
      rw [ha7]; split <;> simp [hs6]
  refine br_f (by rw [hLv, cmp_eql hA]; simp [width, x1]; split <;> simp) ?_
  conv => cbv
  by_cases x2 : op = 77
  · have hw : width op = 2 := by rw [width, if_neg x1, if_pos x2]
    refine br_t (by rw [hLv, hw, cmp_eql hA]; rfl) ?_
    conv => cbv
    refine ⟨[0, 1, 2, 3, 4, 5], [], mix hP, by kernel_rfl, ?_⟩
    conv => cbv
    refine ⟨.agg #[], ⟨[], rfl, rfl, fun i v hv => by simp at hv⟩, ?_⟩
    conv => cbv
    refine ⟨0, 2, rfl, rfl, by omega, by omega, ?_⟩
    intro a5 n5 c5 hn5 hc5 ha5
    conv => cbv
    have h5 := h2.part' (l := 0) (m := 2) (by omega) (by omega) hn5 (by omega) ha5
    refine (uint16 hP R1 a5 n5 c5 _ h5 (by omega)).callQ rfl ?_
    rintro _ ⟨r, rfl, hr⟩
    conv => cbv
    refine ⟨⟨⟨rfl, trivial⟩, .refl _⟩, ?_⟩
    have hKr : (K : Int) = r := by
      rw [List.drop_zero, Nat.sub_zero, List.take_take, Nat.min_self] at hr
      rw [hw] at hK
      rw [hw] at hwr
      rw [hK, hr]
      omega
    have hr16 : r ≤ 65535 := by
      rw [hr]
      have := wordN_range ((((rest.drop 0).take (2 - 0)).take 2)) fun x hx => wf_u8 (h2.wf x (List.mem_of_mem_drop (List.mem_of_mem_take (List.mem_of_mem_take hx))))
      have hl4 : (((rest.drop 0).take (2 - 0)).take 2).length = 2 := by simp; omega
      rw [hl4] at this
      omega
    have hDI : cnv .i32 r = (K : Int) ∨ (2147483648 ≤ K ∧ cnv .i32 r < 0) := .inl (by rw [cnv_i32 hA (by omega), hKr])
    generalize cnv .i32 r = DI at hDI ⊢
    refine ld_at hA hcl 2 rfl ?_
    conv => cbv
    refine ⟨width op, n2, by rw [eneg]; rfl, rfl, by omega, by omega, ?_⟩
    intro a6 n6 c6 hn6 hc6 ha6
    conv => cbv
    have h6 := h2.part' (l := width op) (m := n2) (by omega) (by omega) hn6 (by omega) ha6
    have e6 : cnv .i32 (ofN n6) = (n6 : Int) := by rw [ofN_ hA]; exact cnv_i32 hA (by omega)
    by_cases hbad : rest.length - width op < K
    · rw [if_pos hbad] at hst
      have hor : cmp .gtr DI (cnv .i32 (ofN n6)) = true ∨ (cmp .gtr DI (cnv .i32 (ofN n6)) = false ∧ cmp .lss DI 0 = true) := by
        rw [e6, cmp_gtr hA, cmp_lss hA]
        rcases hDI with hd | ⟨_, hd⟩
        · exact .inl (by simp; omega)
        · exact .inr ⟨by simp; omega, by simp; omega⟩
      rcases hor with q1 | ⟨q1, q2⟩
      · simp only [q1]
        conv => cbv
        refine callP_in (fz := []) hP hA Try.func24 rfl (by decide) rfl ok24 (by simp [labL, lab]) ?_
        conv => cbv
        exact fun _ => .inr ⟨off, pos1, opv, dv, _, rfl, hoff, rfl, .inr ⟨hlt, hst, _, rfl⟩⟩
      · simp only [q1]
        conv => cbv
        simp only [q2]
        conv => cbv
        refine callP_in (fz := []) hP hA Try.func24 rfl (by decide) rfl ok24 (by simp [labL, lab]) ?_
        conv => cbv
        exact fun _ => .inr ⟨off, pos1, opv, dv, _, rfl, hoff, rfl, .inr ⟨hlt, hst, _, rfl⟩⟩
    rw [if_neg hbad] at hst
    have hDK : DI = (K : Int) := by
      rcases hDI with hd | ⟨hd, _⟩
      · exact hd
      · omega
    have q1 : cmp .gtr DI (cnv .i32 (ofN n6)) = false := by rw [e6, cmp_gtr hA]; simp; omega
    have q2 : cmp .lss DI 0 = false := by rw [cmp_lss hA]; simp; omega
    simp only [q1]
    conv => cbv
    simp only [q2]
    conv => cbv
    refine ⟨[0, 1, 2, 3, 4, 5, 6, 7, 8, 9, 10, 11, 12, 13, 14, 15, 16], [16], mix hP, by kernel_rfl, ?_⟩
    conv => cbv
    refine ld_at hA hcl 2 rfl ?_
    conv => cbv
    refine ⟨0, K, rfl, by rw [hDK]; rfl, by omega, by omega, ?_⟩
    intro a7 n7 c7 hn7 hc7 ha7
    conv => cbv
    have h7 := h6.part' (l := 0) (m := K) (by omega) (by omega) hn7 (by omega) ha7
    rw [List.drop_zero, Nat.sub_zero, List.take_take, Nat.min_eq_left (by omega)] at h7
    refine fun _ => .inl ⟨op, _, 1 + width op + K, ad, a7, n7, c7, bin .add .i32 off (bin .add .i32 (bin .add .i32 1 (cnv .i32 (neg .i64 L))) DI), hxp, hst, rfl, ?_, ?_, hcl0, h7, ?_, by omega⟩
    · have g1 : cnv .i32 (neg .i64 L) = ((width op : Nat) : Int) := by rw [eneg]; exact cnv_i32 hA (by omega)
      have g2 : bin .add .i32 1 (cnv .i32 (neg .i64 L)) = 1 + ((width op : Nat) : Int) := by rw [g1]; exact add_i32 hA (by omega)
      have g3 : bin .add .i32 (bin .add .i32 1 (cnv .i32 (neg .i64 L))) DI = 1 + ((width op : Nat) : Int) + K := by rw [g2, hDK]; exact add_i32 hA (by omega)
      rw [g3, add_i32 hA (by omega)]
      omega
    · rw [← ep]; rfl
    · refine ⟨fun _ => hz, fun _ => ?_⟩
      have hs6 : a6.isSome = true := by rw [ha6]; split <;> simp [hs2]
      rw [ha7]; split <;> simp [hs6]
  have x3 : op = 78 := by omega
  have hw : width op = 4 := by rw [width, if_neg x1, if_neg x2]
  refine br_f (by rw [hLv, hw, cmp_eql hA]; rfl) ?_
  conv => cbv
  refine br_t (by rw [hLv, hw, cmp_eql hA]; rfl) ?_
  conv => cbv
  refine ⟨[0, 1, 2, 3, 4, 5], [], mix hP, by kernel_rfl, ?_⟩
  conv => cbv
  refine ⟨.agg #[], ⟨[], rfl, rfl, fun i v hv => by simp at hv⟩, ?_⟩
  conv => cbv
  refine ⟨0, 4, rfl, rfl, by omega, by omega, ?_⟩
  intro a5 n5 c5 hn5 hc5 ha5
  conv => cbv
  have h5 := h2.part' (l := 0) (m := 4) (by omega) (by omega) hn5 (by omega) ha5
  refine (uint32 hP R1 a5 n5 c5 _ h5 (by omega)).callQ rfl ?_
  rintro _ ⟨r, rfl, hr⟩
  conv => cbv
  refine ⟨⟨⟨rfl, trivial⟩, .refl _⟩, ?_⟩
  have hKr : (K : Int) = r := by
    rw [List.drop_zero, Nat.sub_zero, List.take_take, Nat.min_self] at hr
    rw [hw] at hK
    rw [hw] at hwr
    rw [hK, hr]
    omega
  have hDI : cnv .i32 r = (K : Int) ∨ (2147483648 ≤ K ∧ cnv .i32 r < 0) := by
    by_cases hx : r ≤ 2147483647
    · exact .inl (by rw [cnv_i32 hA (by omega), hKr])
    · refine .inr ⟨by omega, ?_⟩
      rw [cnv_ hA]
      simp only [IntKind.wrap, IntKind.bits, IntKind.signed]
      have hr0 : r ≤ 4294967295 := by rw [hw] at hwr hK; omega
      simp
      split <;> omega
  generalize cnv .i32 r = DI at hDI ⊢
  refine ld_at hA hcl 2 rfl ?_
  conv => cbv
  refine ⟨width op, n2, by rw [eneg]; rfl, rfl, by omega, by omega, ?_⟩
  intro a6 n6 c6 hn6 hc6 ha6
  conv => cbv
  have h6 := h2.part' (l := width op) (m := n2) (by omega) (by omega) hn6 (by omega) ha6
  have e6 : cnv .i32 (ofN n6) = (n6 : Int) := by rw [ofN_ hA]; exact cnv_i32 hA (by omega)
  by_cases hbad : rest.length - width op < K
  · rw [if_pos hbad] at hst
    have hor : cmp .gtr DI (cnv .i32 (ofN n6)) = true ∨ (cmp .gtr DI (cnv .i32 (ofN n6)) = false ∧ cmp .lss DI 0 = true) := by
      rw [e6, cmp_gtr hA, cmp_lss hA]
      rcases hDI with hd | ⟨_, hd⟩
      · exact .inl (by simp; omega)
      · exact .inr ⟨by simp; omega, by simp; omega⟩
    rcases hor with q1 | ⟨q1, q2⟩
    · simp only [q1]
      conv => cbv
      refine callP_in (fz := []) hP hA Try.func24 rfl (by decide) rfl ok24 (by simp [labL, lab]) ?_
      conv => cbv
      exact fun _ => .inr ⟨off, pos1, opv, dv, _, rfl, hoff, rfl, .inr ⟨hlt, hst, _, rfl⟩⟩
    · simp only [q1]
      conv => cbv
      simp only [q2]
      conv => cbv
      refine callP_in (fz := []) hP hA Try.func24 rfl (by decide) rfl ok24 (by simp [labL, lab]) ?_
      conv => cbv
      exact fun _ => .inr ⟨off, pos1, opv, dv, _, rfl, hoff, rfl, .inr ⟨hlt, hst, _, rfl⟩⟩
  rw [if_neg hbad] at hst
  have hDK : DI = (K : Int) := by
    rcases hDI with hd | ⟨hd, _⟩
    · exact hd
    · omega
  have q1 : cmp .gtr DI (cnv .i32 (ofN n6)) = false := by rw [e6, cmp_gtr hA]; simp; omega
  have q2 : cmp .lss DI 0 = false := by rw [cmp_lss hA]; simp; omega
  simp only [q1]
  conv => cbv
  simp only [q2]
  conv => cbv
  refine ⟨[0, 1, 2, 3, 4, 5, 6, 7, 8, 9, 10, 11, 12, 13, 14, 15, 16], [16], mix hP, by kernel_rfl, ?_⟩
  conv => cbv
  refine ld_at hA hcl 2 rfl ?_
  conv => cbv
  refine ⟨0, K, rfl, by rw [hDK]; rfl, by omega, by omega, ?_⟩
  intro a7 n7 c7 hn7 hc7 ha7
  conv => cbv
  have h7 := h6.part' (l := 0) (m := K) (by omega) (by omega) hn7 (by omega) ha7
  rw [List.drop_zero, Nat.sub_zero, List.take_take, Nat.min_eq_left (by omega)] at h7
  refine fun _ => .inl ⟨op, _, 1 + width op + K, ad, a7, n7, c7, bin .add .i32 off (bin .add .i32 (bin .add .i32 1 (cnv .i32 (neg .i64 L))) DI), hxp, hst, rfl, ?_, ?_, hcl0, h7, ?_, by omega⟩
  · have g1 : cnv .i32 (neg .i64 L) = ((width op : Nat) : Int) := by rw [eneg]; exact cnv_i32 hA (by omega)
    have g2 : bin .add .i32 1 (cnv .i32 (neg .i64 L)) = 1 + ((width op : Nat) : Int) := by rw [g1]; exact add_i32 hA (by omega)
    have g3 : bin .add .i32 (bin .add .i32 1 (cnv .i32 (neg .i64 L))) DI = 1 + ((width op : Nat) : Int) + K := by rw [g2, hDK]; exact add_i32 hA (by omega)
    rw [g3, add_i32 hA (by omega)]
    omega
  · rw [← ep]; rfl
  · refine ⟨fun _ => hz, fun _ => ?_⟩
    have hs6 : a6.isSome = true := by rw [ha6]; split <;> simp [hs2]
    rw [ha7]; split <;> simp [hs6]
end Go.Proofs.Ythhlbpahndfdhaa.Tk
