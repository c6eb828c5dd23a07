/- Is a transaction a coinbase. -/
import Derived.Test.YtclkimgpdnldnaaTxc
set_option linter.unusedSimpArgs false
set_option linter.unusedVariables false
namespace Go.Proofs.Ytclkimgpdnldnaa.Tx
open Go Go.Se Go.Proofs Go.Proofs.Ytclkimgpdnldnaa.Tytc

/-- One input, that spends nothing. -/
def cb (g : GTx) : Prop := ∃ q, g.ins = [q] ∧ q.idx = 4294967295 ∧ q.hash = zero32

theorem cb_one {ver lock : Int} {ins : List GIn} {outs : List GOut} {q : GIn} (hl : ins.length = 1) (hq : ins[0]? = some q) : cb ⟨ver, ins, outs, lock⟩ ↔ q.idx = 4294967295 ∧ q.hash = zero32 := by
  match ins, hl with
  | [x], _ =>
    simp at hq
    subst hq
    constructor
    · rintro ⟨y, h1, h2⟩
      simp at h1
      subst h1
      exact h2
    · intro h
      exact ⟨x, rfl, h⟩

theorem cb_not {ver lock : Int} {ins : List GIn} {outs : List GOut} (hl : ins.length ≠ 1) : ¬ cb ⟨ver, ins, outs, lock⟩ := by
  rintro ⟨q, h, _⟩
  simp only at h
  subst h
  simp at hl

set_option maxRecDepth 100000 in
theorem cbSpec {P : Program} (hP : P = Try.prog) (R : RO) (cs : List Value) (g : GTx) (h : TxAt R cs g) : RetP P 58 [.agg cs.toArray] R fun _ v => ∃ r, v = .bool r ∧ (r = true ↔ cb g) := by
  subst hP
  obtain ⟨a, n, c, a2, n2, cc, rfl, h1, h2, h3, h4⟩ := h
  obtain ⟨ver, ins, outs, lock⟩ := g
  simp only at h1 h2 h3 h4 ⊢
  have hl3 : n = ins.length := h3.len
  refine retP_vc (fz := []) Try.func58 rfl (by decide) rfl ok58 ?_
  intro P bin cmp cnv neg com bnot beq ofN toN at_ sub_ scmp cat sget ssz ssub elem fld_ hP hA
  conv => cbv
  have o := ofN_ hA n
  by_cases hn : n = 1
  case neg =>
    have c1 : cmp .eql (ofN n) 1 = false := by rw [o, cmp_eql hA]; simp; omega
    simp only [c1]
    conv => cbv
    intro ρ R'' _ _ _
    exact ⟨_, rfl, ⟨fun h => (by cases h), fun h => absurd h (cb_not (by omega))⟩⟩
  have c1 : cmp .eql (ofN n) 1 = true := by rw [o, cmp_eql hA]; simp; omega
  simp only [c1]
  conv => cbv
  refine ix_at hA h3 0 rfl (by omega) ?_
  obtain ⟨q, hxq⟩ : ∃ q, ins[0]? = some q := ⟨_, List.getElem?_eq_getElem (by omega)⟩
  refine ld_part hA h3 0 rfl hxq 0 33 (by omega) ?_
  rintro cs hcs ⟨b, m, d, b2, m2, d2, rfl, g0, -⟩
  have e : ((ints .u8 q.hash ++ [Value.int .u32 q.idx, .slice b m d, .slice b2 m2 d2, .int .u32 q.seq]).drop 0).take 33 = ints .u8 q.hash ++ [Value.int .u32 q.idx] := by
    rw [List.drop_zero, List.take_append, ints_len, g0, List.take_of_length_le (by rw [ints_len, g0]; omega)]
    rfl
  rw [e]
  have hi := isNone hP R q.hash q.idx g0
  generalize (ints .u8 q.hash ++ [Value.int .u32 q.idx]).toArray = v at hi
  conv => cbv
  refine hi.callQ rfl ?_
  rintro _ ⟨r, rfl, hr⟩
  conv => cbv
  intro ρ R'' _ _ _
  exact ⟨_, rfl, hr.trans (cb_one (by omega) hxq).symm⟩

set_option maxRecDepth 100000 in
theorem cbMsg {P : Program} (hP : P = Try.prog) (R : RO) (v : Value) (g : GTx) (h : PAt 4 MsgAt R [v] g) : RetP P 114 [v] R fun _ v => ∃ r, v = .bool r ∧ (r = true ↔ cb g) := by
  subst hP
  obtain ⟨ad, ds, hv, k2, k3, a, n, c, a2, n2, cc, rfl, h1, h2, h3, h4⟩ := h
  simp only [List.cons.injEq, and_true] at hv
  subst hv
  obtain ⟨ver, ins, outs, lock⟩ := g
  simp only at h1 h2 h3 h4 k3 ⊢
  have hl3 : n = ins.length := h3.len
  refine retP_vc (fz := []) Try.func114 rfl (by decide) rfl ok114 ?_
  intro P bin cmp cnv neg com bnot beq ofN toN at_ sub_ scmp cat sget ssz ssub elem fld_ hP hA
  conv => cbv
  have o := ofN_ hA n
  refine ld_at hA k3 1 rfl ?_
  conv => cbv
  by_cases hn : n = 1
  case neg =>
    refine br_t (by rw [o, cmp_neq hA]; simp; omega) ?_
    conv => cbv
    intro ρ R'' _ _ _
    exact ⟨_, rfl, ⟨fun h => (by cases h), fun h => absurd h (cb_not (by omega))⟩⟩
  refine br_f (by rw [o, cmp_neq hA]; simp; omega) ?_
  conv => cbv
  refine ld_at hA k3 1 rfl ?_
  conv => cbv
  refine ix_at hA h3 0 rfl (by omega) ?_
  obtain ⟨q, hxq⟩ : ∃ q, ins[0]? = some q := ⟨_, List.getElem?_eq_getElem (by omega)⟩
  have hcb := cb_one (ver := ver) (lock := lock) (outs := outs) (by omega) hxq
  refine ld_elem hA h3 0 rfl hxq ?_
  rintro _ - ⟨ad3, ds3, rfl, hd3, hc3, b, m, d, b2, m2, d2, rfl, g0, -⟩
  refine ⟨_, rfl, ?_⟩
  conv => cbv
  have e1 : fld_ (fld_ ad3 0) 32 = fld_ ad3 32 := by rw [fld__is hA]; show (ad3.add 0).add 32 = ad3.add 32; rw [add_add]
  have e2 : fld_ (fld_ ad3 0) 0 = fld_ ad3 0 := by rw [fld__is hA]; show (ad3.add 0).add 0 = ad3.add 0; rw [add_add]
  rw [e1]
  refine ld_at hA hc3 32 (v := .int .u32 q.idx) (by rw [List.getElem?_append_right (by rw [ints_len, g0]; omega), ints_len, g0]; rfl) ?_
  conv => cbv
  by_cases hi : q.idx = 4294967295
  case neg =>
    have c1 : cmp .neq q.idx 4294967295 = true := by rw [cmp_neq hA]; simp; omega
    simp only [c1]
    conv => cbv
    intro ρ R'' _ _ _
    exact ⟨_, rfl, ⟨fun h => (by cases h), fun h => absurd (hcb.1 h).1 hi⟩⟩
  have c1 : cmp .neq q.idx 4294967295 = false := by rw [cmp_neq hA]; simp; omega
  simp only [c1]
  conv => cbv
  simp only [e2]
  refine ld_at_part hA hc3 0 32 (by rw [hd3]; omega) ?_
  have e : ((ints .u8 q.hash ++ [Value.int .u32 q.idx, .slice b m d, .slice b2 m2 d2, .int .u32 q.seq]).drop 0).take 32 = ints .u8 q.hash := by
    rw [List.drop_zero, List.take_append, ints_len, g0, List.take_of_length_le (by rw [ints_len, g0]; omega)]
    simp
  rw [e]
  obtain ⟨hash, idx, script, wit, sq⟩ := q
  simp only at g0 hcb
  obtain ⟨e0, e1, e2, e3, e4, e5, e6, e7, e8, e9, e10, e11, e12, e13, e14, e15, e16, e17, e18, e19, e20, e21, e22, e23, e24, e25, e26, e27, e28, e29, e30, e31, rfl⟩ := l32 g0
  conv => cbv
  refine raw_neq rfl (by rw [hP]; kernel_rfl) (by rw [hP]; exact ty139) rfl (by rw [hP]; exact Tytx.ty5) rfl rfl [e0, e1, e2, e3, e4, e5, e6, e7, e8, e9, e10, e11, e12, e13, e14, e15, e16, e17, e18, e19, e20, e21, e22, e23, e24, e25, e26, e27, e28, e29, e30, e31] zero32 rfl rfl rfl rfl ?_
  intro r hr
  conv => cbv
  simp only at hi
  refine br_of (fun hb => ?_) (fun hb => ?_)
  · conv => cbv
    intro ρ R'' _ _ _
    exact ⟨_, rfl, ⟨fun h => (by cases h), fun h => absurd (hcb.1 h).2 (hr.1 hb)⟩⟩
  · conv => cbv
    intro ρ R'' _ _ _
    exact ⟨_, rfl, ⟨fun _ => hcb.2 ⟨hi, Classical.byContradiction fun hne => (by rw [hr.2 hne] at hb; cases hb)⟩, fun _ => rfl⟩⟩

set_option maxRecDepth 100000 in
theorem cbImpl {P : Program} (hP : P = Try.prog) (R : RO) (v : Value) (g : GTx) (h : UAt R v g) : RetP P 89 [v] R fun _ v => ∃ r, v = .bool r ∧ (r = true ↔ cb g) := by
  subst hP
  obtain ⟨ad, m0, rfl, k1, hm⟩ := h
  have hm2 := hm
  obtain ⟨ad2, ds, hv, -⟩ := hm
  simp only [List.cons.injEq, and_true] at hv
  subst hv
  refine retP_vc (fz := []) Try.func89 rfl (by decide) rfl ok89 ?_
  intro P bin cmp cnv neg com bnot beq ofN toN at_ sub_ scmp cat sget ssz ssub elem fld_ hP hA
  conv => cbv
  refine callP_in (fz := []) hP hA Try.func83 rfl (by decide) rfl Tytx.ok83 (by simp [labL, lab]) ?_
  conv => cbv
  refine ld_at hA k1 0 rfl ?_
  conv => cbv
  refine (cbMsg hP R _ g hm2).callQ rfl ?_
  rintro _ ⟨r, rfl, hr⟩
  conv => cbv
  intro ρ R'' _ _ _
  exact ⟨_, rfl, hr⟩
end Go.Proofs.Ytclkimgpdnldnaa.Tx
