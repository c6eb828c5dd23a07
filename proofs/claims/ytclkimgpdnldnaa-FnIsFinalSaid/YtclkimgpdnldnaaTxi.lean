/- Whether a transaction may stand in a block. -/
import Derived.Test.YtclkimgpdnldnaaTxo
set_option linter.unusedSimpArgs false
set_option linter.unusedVariables false
namespace Go.Proofs.Ytclkimgpdnldnaa.Tx
open Go Go.Se Go.Proofs Go.Proofs.Ytclkimgpdnldnaa.Tytx

/-- Its lock is 0, or has passed, or no input asks for it. -/
def fin (g : GTx) (h t : Int) : Prop := g.lock = 0 ∨ g.lock < (if g.lock < 500000000 then h else t) ∨ ∀ x ∈ g.ins, x.seq = 4294967295

theorem wf_u32 {x : Int} (h : (Lit.int .u32 x).wf = true) : 0 ≤ x ∧ x ≤ 4294967295 := by
  simp [Lit.wf, IntKind.min, IntKind.max, IntKind.bits, IntKind.signed] at h
  omega
theorem wf_i32 {x : Int} (h : (Lit.int .i32 x).wf = true) : -2147483648 ≤ x ∧ x ≤ 2147483647 := by
  simp [Lit.wf, IntKind.min, IntKind.max, IntKind.bits, IntKind.signed] at h
  omega
theorem wf_i64 {x : Int} (h : (Lit.int .i64 x).wf = true) : -9223372036854775808 ≤ x ∧ x ≤ 9223372036854775807 := by
  simp [Lit.wf, IntKind.min, IntKind.max, IntKind.bits, IntKind.signed] at h
  omega

theorem take_all {xs : List GIn} {i : Nat} {q : GIn} (h : xs[i]? = some q) (ht : ∀ x ∈ xs.take i, x.seq = 4294967295) (hq : q.seq = 4294967295) : ∀ x ∈ xs.take (i + 1), x.seq = 4294967295 := by
  intro x hx
  rw [List.take_add_one, h] at hx
  rcases List.mem_append.1 hx with hx | hx
  · exact ht x hx
  · simp at hx
    rw [hx]; exact hq






set_option maxRecDepth 100000 in
theorem specFinal {P : Program} (hP : P = Try.prog) (R : RO) (cs : List Value) (g : GTx) (h : TxAt R cs g) (hgt t : Int) (w1 : (Lit.int .i32 hgt).wf = true) (w2 : (Lit.int .i64 t).wf = true) :
    RetP P 19 [.agg cs.toArray, .int .i32 hgt, .int .i64 t] R fun _ v => ∃ r, v = .bool r ∧ (r = true ↔ fin g hgt t) := by
  subst hP
  obtain ⟨a, n, c, a2, n2, cc, rfl, h1, h2, h3, h4⟩ := h
  obtain ⟨ver, ins, outs, lock⟩ := g
  simp only at h1 h2 h3 h4 ⊢
  have hl3 : n = ins.length := h3.len
  have hm3 := h3.mx
  unfold maxLen at hm3
  have l1 := wf_u32 h2
  have l2 := wf_i32 w1
  have l3 := wf_i64 w2
  refine retP_vc (fz := []) Try.func19 rfl (by decide) rfl ok19 ?_
  intro P bin cmp cnv neg com bnot beq ofN toN at_ sub_ scmp cat sget ssz ssub elem fld_ hP hA
  conv => cbv
  have o := ofN_ hA n
  by_cases hlo : lock < 500000000
  · have hf : fin ⟨ver, ins, outs, lock⟩ hgt t = (lock = 0 ∨ lock < cnv .i64 hgt ∨ ∀ x ∈ ins, x.seq = 4294967295) := by rw [cnv_i64 hA (by omega)]; simp only [fin, if_pos hlo]
    refine br_t (by rw [cmp_lss hA]; simp; exact hlo) ?_
    conv => cbv
    have c1 : cmp .eql lock 0 = decide (lock = 0) := by rw [cmp_eql hA]; rfl
    have e1 : cnv .i64 lock = lock := cnv_i64 hA (by omega)
    by_cases e0 : lock = 0
    · rw [decide_eq_true e0] at c1
      simp only [c1]
      conv => cbv
      intro ρ R'' _ _ _
      refine ⟨_, rfl, ?_⟩
      exact ⟨fun _ => by rw [hf]; exact (.inl e0), fun _ => rfl⟩
    rw [decide_eq_false e0] at c1
    simp only [c1]
    conv => cbv
    by_cases e2 : lock < (cnv .i64 hgt)
    · have c2 : cmp .lss (cnv .i64 lock) (cnv .i64 hgt) = true := by rw [e1, cmp_lss hA]; simp; exact e2
      simp only [c2]
      conv => cbv
      intro ρ R'' _ _ _
      refine ⟨_, rfl, ?_⟩
      exact ⟨fun _ => by rw [hf]; exact (.inr (.inl e2)), fun _ => rfl⟩
    have c2 : cmp .lss (cnv .i64 lock) (cnv .i64 hgt) = false := by rw [e1, cmp_lss hA]; simp; omega
    simp only [c2]
    conv => cbv
    refine ⟨Int, (fun x => ⟨[(8, .v (.int .i64 x)), (3, .p 0 0)], R, [(0, ⟨32, [.v (.int .i32 ver), .v (.slice a n c), .v (.slice a2 n2 cc), .v (.int .u32 lock)]⟩)], 1, []⟩),
      fun k x => ∃ i : Nat, x = i ∧ i ≤ n ∧ k = n - i ∧ ∀ x ∈ ins.take i, x.seq = 4294967295, ⟨n, 0, ⟨⟨rfl, rfl, trivial⟩, rfl, ⟨rfl, trivial⟩, rfl, rfl⟩, 0, rfl, by omega, rfl, fun x hx => by simp at hx⟩, ?_⟩
    rintro k x ⟨i, hx, hi, hk, ht⟩
    conv => cbv
    by_cases hlt : i < n
    case neg =>
      refine br_f (by rw [o, cmp_lss hA]; simp; omega) ?_
      rw [List.take_of_length_le (by omega)] at ht
      conv => cbv
      intro ρ R'' _ _ _
      refine ⟨_, rfl, ?_⟩
      exact ⟨fun _ => by rw [hf]; exact (.inr (.inr ht)), fun _ => rfl⟩
    refine br_t (by rw [o, cmp_lss hA]; simp; omega) ?_
    conv => cbv
    refine ix_at hA h3 i hx hlt ?_
    obtain ⟨q, hxq⟩ : ∃ q, ins[i]? = some q := ⟨_, List.getElem?_eq_getElem (by omega)⟩
    refine ld_fld hA h3 i hx hxq 35 ?_
    rintro _ - ⟨b, m, d, b2, m2, d2, rfl, g0, -⟩
    refine ⟨.int .u32 q.seq, by rw [List.getElem?_append_right (by rw [ints_len, g0]; omega), ints_len, g0]; rfl, ?_⟩
    conv => cbv
    by_cases he : q.seq = 4294967295
    case neg =>
      refine br_t (by rw [cmp_neq hA]; simpa using he) ?_
      conv => cbv
      intro ρ R'' _ _ _
      refine ⟨_, rfl, ?_⟩
      have hno : ¬ ∀ x ∈ ins, x.seq = 4294967295 := fun hall => he (hall q (List.mem_of_getElem? hxq))
      refine ⟨fun h => (by cases h), fun h => ?_⟩
      rw [hf] at h
      rcases h with h | h | h
      · exact absurd h e0
      · exact absurd h e2
      · exact absurd h hno
    refine br_f (by rw [cmp_neq hA]; simpa using he) ?_
    conv => cbv
    refine ⟨n - (i + 1), x + 1, by omega, ⟨⟨?_, rfl, trivial⟩, rfl, ⟨rfl, trivial⟩, rfl, rfl⟩, i + 1, by show x + 1 = ((i + 1 : Nat) : Int); omega, by omega, rfl, take_all hxq ht he⟩
    rw [add_i64 hA (by omega)]
    rfl
  · have hf : fin ⟨ver, ins, outs, lock⟩ hgt t = (lock = 0 ∨ lock < t ∨ ∀ x ∈ ins, x.seq = 4294967295) := by simp only [fin, if_neg hlo]
    refine br_f (by rw [cmp_lss hA]; simp; omega) ?_
    conv => cbv
    have c1 : cmp .eql lock 0 = decide (lock = 0) := by rw [cmp_eql hA]; rfl
    have e1 : cnv .i64 lock = lock := cnv_i64 hA (by omega)
    by_cases e0 : lock = 0
    · rw [decide_eq_true e0] at c1
      simp only [c1]
      conv => cbv
      intro ρ R'' _ _ _
      refine ⟨_, rfl, ?_⟩
      exact ⟨fun _ => by rw [hf]; exact (.inl e0), fun _ => rfl⟩
    rw [decide_eq_false e0] at c1
    simp only [c1]
    conv => cbv
    by_cases e2 : lock < t
    · have c2 : cmp .lss (cnv .i64 lock) t = true := by rw [e1, cmp_lss hA]; simp; exact e2
      simp only [c2]
      conv => cbv
      intro ρ R'' _ _ _
      refine ⟨_, rfl, ?_⟩
      exact ⟨fun _ => by rw [hf]; exact (.inr (.inl e2)), fun _ => rfl⟩
    have c2 : cmp .lss (cnv .i64 lock) t = false := by rw [e1, cmp_lss hA]; simp; omega
    simp only [c2]
    conv => cbv
    refine ⟨Int, (fun x => ⟨[(8, .v (.int .i64 x)), (3, .p 0 0)], R, [(0, ⟨32, [.v (.int .i32 ver), .v (.slice a n c), .v (.slice a2 n2 cc), .v (.int .u32 lock)]⟩)], 1, []⟩),
      fun k x => ∃ i : Nat, x = i ∧ i ≤ n ∧ k = n - i ∧ ∀ x ∈ ins.take i, x.seq = 4294967295, ⟨n, 0, ⟨⟨rfl, rfl, trivial⟩, rfl, ⟨rfl, trivial⟩, rfl, rfl⟩, 0, rfl, by omega, rfl, fun x hx => by simp at hx⟩, ?_⟩
    rintro k x ⟨i, hx, hi, hk, ht⟩
    conv => cbv
    by_cases hlt : i < n
    case neg =>
      refine br_f (by rw [o, cmp_lss hA]; simp; omega) ?_
      rw [List.take_of_length_le (by omega)] at ht
      conv => cbv
      intro ρ R'' _ _ _
      refine ⟨_, rfl, ?_⟩
      exact ⟨fun _ => by rw [hf]; exact (.inr (.inr ht)), fun _ => rfl⟩
    refine br_t (by rw [o, cmp_lss hA]; simp; omega) ?_
    conv => cbv
    refine ix_at hA h3 i hx hlt ?_
    obtain ⟨q, hxq⟩ : ∃ q, ins[i]? = some q := ⟨_, List.getElem?_eq_getElem (by omega)⟩
    refine ld_fld hA h3 i hx hxq 35 ?_
    rintro _ - ⟨b, m, d, b2, m2, d2, rfl, g0, -⟩
    refine ⟨.int .u32 q.seq, by rw [List.getElem?_append_right (by rw [ints_len, g0]; omega), ints_len, g0]; rfl, ?_⟩
    conv => cbv
    by_cases he : q.seq = 4294967295
    case neg =>
      refine br_t (by rw [cmp_neq hA]; simpa using he) ?_
      conv => cbv
      intro ρ R'' _ _ _
      refine ⟨_, rfl, ?_⟩
      have hno : ¬ ∀ x ∈ ins, x.seq = 4294967295 := fun hall => he (hall q (List.mem_of_getElem? hxq))
      refine ⟨fun h => (by cases h), fun h => ?_⟩
      rw [hf] at h
      rcases h with h | h | h
      · exact absurd h e0
      · exact absurd h e2
      · exact absurd h hno
    refine br_f (by rw [cmp_neq hA]; simpa using he) ?_
    conv => cbv
    refine ⟨n - (i + 1), x + 1, by omega, ⟨⟨?_, rfl, trivial⟩, rfl, ⟨rfl, trivial⟩, rfl, rfl⟩, i + 1, by show x + 1 = ((i + 1 : Nat) : Int); omega, by omega, rfl, take_all hxq ht he⟩
    rw [add_i64 hA (by omega)]
    rfl


set_option maxRecDepth 100000 in
theorem implFinal {P : Program} (hP : P = Try.prog) (R : RO) (v : Value) (g : GTx) (h : UAt R v g) (hgt t : Int) (w1 : (Lit.int .i32 hgt).wf = true) (w2 : (Lit.int .i64 t).wf = true) :
    RetP P 50 [v, .int .i32 hgt, .agg #[.int .i64 t]] R fun _ v => ∃ r, v = .bool r ∧ (r = true ↔ fin g hgt t) := by
  subst hP
  obtain ⟨ad, m0, rfl, k1, ad2, ds, hm, k2, k3, a, n, c, a2, n2, cc, rfl, h1, h2, h3, h4⟩ := h
  simp only [List.cons.injEq, and_true] at hm
  subst hm
  obtain ⟨ver, ins, outs, lock⟩ := g
  simp only at h1 h2 h3 h4 k3 ⊢
  have hl3 : n = ins.length := h3.len
  have hm3 := h3.mx
  unfold maxLen at hm3
  have l1 := wf_u32 h2
  have l2 := wf_i32 w1
  have l3 := wf_i64 w2
  refine retP_vc (fz := []) Try.func50 rfl (by decide) rfl ok50 ?_
  intro P bin cmp cnv neg com bnot beq ofN toN at_ sub_ scmp cat sget ssz ssub elem fld_ hP hA
  conv => cbv
  have o := ofN_ hA n
  refine callP_in (fz := []) hP hA Try.func83 rfl (by decide) rfl ok83 (by simp [labL, lab]) ?_
  conv => cbv
  refine ld_at hA k1 0 rfl ?_
  conv => cbv
  refine ld_at hA k3 3 rfl ?_
  conv => cbv
  have c1 : cmp .eql lock 0 = decide (lock = 0) := by rw [cmp_eql hA]; rfl
  by_cases e0 : lock = 0
  · rw [decide_eq_true e0] at c1
    simp only [c1]
    have hf : fin ⟨ver, ins, outs, lock⟩ hgt t = (lock = 0 ∨ lock < (if lock < 500000000 then hgt else t) ∨ ∀ x ∈ ins, x.seq = 4294967295) := rfl
    conv => cbv
    intro ρ R'' _ _ _
    refine ⟨_, rfl, ?_⟩
    exact ⟨fun _ => by rw [hf]; exact (.inl e0), fun _ => rfl⟩
  rw [decide_eq_false e0] at c1
  simp only [c1]
  conv => cbv
  by_cases hlo : lock < 500000000
  · have hf : fin ⟨ver, ins, outs, lock⟩ hgt t = (lock = 0 ∨ lock < cnv .i64 hgt ∨ ∀ x ∈ ins, x.seq = 4294967295) := by rw [cnv_i64 hA (by omega)]; simp only [fin, if_pos hlo]
    refine br_t (by rw [cmp_lss hA]; simp; exact hlo) ?_
    conv => cbv
    have e1 : cnv .i64 lock = lock := cnv_i64 hA (by omega)
    by_cases e2 : lock < (cnv .i64 hgt)
    · have c2 : cmp .lss (cnv .i64 lock) (cnv .i64 hgt) = true := by rw [e1, cmp_lss hA]; simp; exact e2
      simp only [c2]
      conv => cbv
      intro ρ R'' _ _ _
      refine ⟨_, rfl, ?_⟩
      exact ⟨fun _ => by rw [hf]; exact (.inr (.inl e2)), fun _ => rfl⟩
    have c2 : cmp .lss (cnv .i64 lock) (cnv .i64 hgt) = false := by rw [e1, cmp_lss hA]; simp; omega
    simp only [c2]
    conv => cbv
    refine ld_at hA k3 1 rfl ?_
    conv => cbv
    refine ⟨Int, (fun x => ⟨[(35, .v (.int .i64 x)), (34, .v (.int .i64 (ofN n))), (33, .v (.slice a n c))], R, [], 1, []⟩),
      fun k x => ∃ i : Nat, x = i ∧ i ≤ n ∧ k = n - i ∧ ∀ x ∈ ins.take i, x.seq = 4294967295, ⟨n, 0, ⟨⟨rfl, rfl, rfl, trivial⟩, rfl, trivial, rfl, rfl⟩, 0, rfl, by omega, rfl, fun x hx => by simp at hx⟩, ?_⟩
    rintro k x ⟨i, hx, hi, hk, ht⟩
    conv => cbv
    by_cases hlt : i < n
    case neg =>
      refine br_f (by rw [o, cmp_lss hA]; simp; omega) ?_
      rw [List.take_of_length_le (by omega)] at ht
      conv => cbv
      intro ρ R'' _ _ _
      refine ⟨_, rfl, ?_⟩
      exact ⟨fun _ => by rw [hf]; exact (.inr (.inr ht)), fun _ => rfl⟩
    refine br_t (by rw [o, cmp_lss hA]; simp; omega) ?_
    conv => cbv
    refine ix_at hA h3 i hx hlt ?_
    obtain ⟨q, hxq⟩ : ∃ q, ins[i]? = some q := ⟨_, List.getElem?_eq_getElem (by omega)⟩
    refine ld_elem hA h3 i hx hxq ?_
    rintro _ - ⟨ad3, ds3, rfl, hd3, hc3, b, m, d, b2, m2, d2, rfl, g0, -⟩
    refine ⟨_, rfl, ?_⟩
    conv => cbv
    refine ld_at hA hc3 35 (v := .int .u32 q.seq) (by rw [List.getElem?_append_right (by rw [ints_len, g0]; omega), ints_len, g0]; rfl) ?_
    conv => cbv
    by_cases he : q.seq = 4294967295
    case neg =>
      refine br_t (by rw [cmp_neq hA]; simpa using he) ?_
      conv => cbv
      intro ρ R'' _ _ _
      refine ⟨_, rfl, ?_⟩
      have hno : ¬ ∀ x ∈ ins, x.seq = 4294967295 := fun hall => he (hall q (List.mem_of_getElem? hxq))
      refine ⟨fun h => (by cases h), fun h => ?_⟩
      rw [hf] at h
      rcases h with h | h | h
      · exact absurd h e0
      · exact absurd h e2
      · exact absurd h hno
    refine br_f (by rw [cmp_neq hA]; simpa using he) ?_
    conv => cbv
    refine ⟨n - (i + 1), x + 1, by omega, ⟨⟨?_, rfl, rfl, trivial⟩, rfl, trivial, rfl, rfl⟩, i + 1, by show x + 1 = ((i + 1 : Nat) : Int); omega, by omega, rfl, take_all hxq ht he⟩
    rw [add_i64 hA (by omega)]
    rfl
  · have hf : fin ⟨ver, ins, outs, lock⟩ hgt t = (lock = 0 ∨ lock < t ∨ ∀ x ∈ ins, x.seq = 4294967295) := by simp only [fin, if_neg hlo]
    refine br_f (by rw [cmp_lss hA]; simp; omega) ?_
    conv => cbv
    refine callP_in (fz := []) hP hA Try.func84 rfl (by decide) rfl ok84 (by simp [labL, lab]) ?_
    conv => cbv
    have e1 : cnv .i64 lock = lock := cnv_i64 hA (by omega)
    by_cases e2 : lock < t
    · have c2 : cmp .lss (cnv .i64 lock) t = true := by rw [e1, cmp_lss hA]; simp; exact e2
      simp only [c2]
      conv => cbv
      intro ρ R'' _ _ _
      refine ⟨_, rfl, ?_⟩
      exact ⟨fun _ => by rw [hf]; exact (.inr (.inl e2)), fun _ => rfl⟩
    have c2 : cmp .lss (cnv .i64 lock) t = false := by rw [e1, cmp_lss hA]; simp; omega
    simp only [c2]
    conv => cbv
    refine ld_at hA k3 1 rfl ?_
    conv => cbv
    refine ⟨Int, (fun x => ⟨[(35, .v (.int .i64 x)), (34, .v (.int .i64 (ofN n))), (33, .v (.slice a n c))], R, [], 2, []⟩),
      fun k x => ∃ i : Nat, x = i ∧ i ≤ n ∧ k = n - i ∧ ∀ x ∈ ins.take i, x.seq = 4294967295, ⟨n, 0, ⟨⟨rfl, rfl, rfl, trivial⟩, rfl, trivial, rfl, rfl⟩, 0, rfl, by omega, rfl, fun x hx => by simp at hx⟩, ?_⟩
    rintro k x ⟨i, hx, hi, hk, ht⟩
    conv => cbv
    by_cases hlt : i < n
    case neg =>
      refine br_f (by rw [o, cmp_lss hA]; simp; omega) ?_
      rw [List.take_of_length_le (by omega)] at ht
      conv => cbv
      intro ρ R'' _ _ _
      refine ⟨_, rfl, ?_⟩
      exact ⟨fun _ => by rw [hf]; exact (.inr (.inr ht)), fun _ => rfl⟩
    refine br_t (by rw [o, cmp_lss hA]; simp; omega) ?_
    conv => cbv
    refine ix_at hA h3 i hx hlt ?_
    obtain ⟨q, hxq⟩ : ∃ q, ins[i]? = some q := ⟨_, List.getElem?_eq_getElem (by omega)⟩
    refine ld_elem hA h3 i hx hxq ?_
    rintro _ - ⟨ad3, ds3, rfl, hd3, hc3, b, m, d, b2, m2, d2, rfl, g0, -⟩
    refine ⟨_, rfl, ?_⟩
    conv => cbv
    refine ld_at hA hc3 35 (v := .int .u32 q.seq) (by rw [List.getElem?_append_right (by rw [ints_len, g0]; omega), ints_len, g0]; rfl) ?_
    conv => cbv
    by_cases he : q.seq = 4294967295
    case neg =>
      refine br_t (by rw [cmp_neq hA]; simpa using he) ?_
      conv => cbv
      intro ρ R'' _ _ _
      refine ⟨_, rfl, ?_⟩
      have hno : ¬ ∀ x ∈ ins, x.seq = 4294967295 := fun hall => he (hall q (List.mem_of_getElem? hxq))
      refine ⟨fun h => (by cases h), fun h => ?_⟩
      rw [hf] at h
      rcases h with h | h | h
      · exact absurd h e0
      · exact absurd h e2
      · exact absurd h hno
    refine br_f (by rw [cmp_neq hA]; simpa using he) ?_
    conv => cbv
    refine ⟨n - (i + 1), x + 1, by omega, ⟨⟨?_, rfl, rfl, trivial⟩, rfl, trivial, rfl, rfl⟩, i + 1, by show x + 1 = ((i + 1 : Nat) : Int); omega, by omega, rfl, take_all hxq ht he⟩
    rw [add_i64 hA (by omega)]
    rfl

set_option maxRecDepth 100000 in
theorem isFinal {P : Program} (hP : P = Try.prog) (R : RO) (cs : List Value) (g : GTx) (h : TxAt R cs g) (hz : tsz g ≤ 1000000) (hgt t : Int) (w1 : (Lit.int .i32 hgt).wf = true) (w2 : (Lit.int .i64 t).wf = true) :
    RetP P 18 [.agg cs.toArray, .int .i32 hgt, .int .i64 t] R fun _ v => ∃ r, v = .bool r ∧ (r = true ↔ fin g hgt t) := by
  subst hP
  have hh := h
  obtain ⟨a, n, c, a2, n2, cc, rfl, -⟩ := h
  refine retP_vc (fz := []) Try.func18 rfl (by decide) rfl ok18 ?_
  intro P bin cmp cnv neg com bnot beq ofN toN at_ sub_ scmp cat sget ssz ssub elem fld_ hP hA
  conv => cbv
  refine (utilTx hP R _ g hh hz).callP rfl ?_
  rintro R1 v hR1 hu
  conv => cbv
  refine callP_in (fz := []) hP hA Try.func52 rfl (by decide) rfl ok52 (by simp [labL, lab]) ?_
  conv => cbv
  refine (implFinal hP R1 v g hu hgt t w1 w2).callQ rfl ?_
  rintro _ ⟨r, rfl, hr⟩
  conv => cbv
  intro ρ R'' _ _ _
  exact ⟨r, rfl, hr⟩


set_option maxRecDepth 100000 in
theorem law (R : RO) (cs : List Value) (g : GTx) (h : TxAt R cs g) (hgt : Int) (w1 : (Lit.int .i32 hgt).wf = true) (t : Int) (w2 : (Lit.int .i64 t).wf = true) :
    RetP Try.prog 5 [.agg cs.toArray, .int .i32 hgt, .int .i64 t] R fun _ v => v = .bool true := by
  have hh := h
  obtain ⟨a, n, c, a2, n2, cc, rfl, -⟩ := h
  refine retP_vc (fz := []) Try.func5 rfl (by decide) rfl ok5 ?_
  intro P bin cmp cnv neg com bnot beq ofN toN at_ sub_ scmp cat sget ssz ssub elem fld_ hP hA
  conv => cbv
  refine (fits2 hP R _ g hh).callQ rfl ?_
  rintro _ ⟨b, rfl⟩
  conv => cbv
  refine br_of (fun _ => ?_) (fun _ => ?_)
  · conv => cbv
    intro ρ R'' _ _ _
    rfl
  conv => cbv
  refine (txSize hP R _ g hh).callQ rfl ?_
  rintro _ ⟨z, rfl, hz⟩
  conv => cbv
  by_cases d1 : z > 100000
  · have c1 : cmp .gtr z 100000 = true := by rw [cmp_gtr hA]; simp; omega
    simp only [c1]
    conv => cbv
    intro ρ R'' _ _ _
    rfl
  have c1 : cmp .gtr z 100000 = false := by rw [cmp_gtr hA]; simp; omega
  simp only [c1]
  conv => cbv
  by_cases d2 : hgt < 0
  · have c2 : cmp .lss hgt 0 = true := by rw [cmp_lss hA]; simp; omega
    simp only [c2]
    conv => cbv
    intro ρ R'' _ _ _
    rfl
  have c2 : cmp .lss hgt 0 = false := by rw [cmp_lss hA]; simp; omega
  simp only [c2]
  conv => cbv
  by_cases d3 : t < 0
  · have c3 : cmp .lss t 0 = true := by rw [cmp_lss hA]; simp; omega
    simp only [c3]
    conv => cbv
    intro ρ R'' _ _ _
    rfl
  have c3 : cmp .lss t 0 = false := by rw [cmp_lss hA]; simp; omega
  simp only [c3]
  conv => cbv
  by_cases d4 : t ≥ 8589934592
  · have c4 : cmp .geq t 8589934592 = true := by rw [cmp_geq hA]; simp; omega
    simp only [c4]
    conv => cbv
    intro ρ R'' _ _ _
    rfl
  have c4 : cmp .geq t 8589934592 = false := by rw [cmp_geq hA]; simp; omega
  simp only [c4]
  conv => cbv
  have hzs : tsz g ≤ 1000000 := by
    rw [hz] at d1
    unfold capn at d1
    split at d1 <;> omega
  refine ⟨[0, 1, 2, 4, 5, 6, 3, 7, 8, 9], [], mix hP, by kernel_rfl, ?_⟩
  conv => cbv
  refine (isFinal hP R _ g hh hzs hgt t w1 w2).callQ rfl ?_
  rintro _ ⟨r1, rfl, hr1⟩
  conv => cbv
  refine ⟨⟨⟨rfl, trivial⟩, rfl⟩, ?_⟩
  refine (specFinal hP R _ g hh hgt t w1 w2).callQ rfl ?_
  rintro _ ⟨r2, rfl, hr2⟩
  conv => cbv
  refine ⟨⟨⟨rfl, trivial⟩, rfl⟩, ?_⟩
  intro ρ R'' _ _ _
  show Value.bool (beq r1 r2) = .bool true
  have : r1 = r2 := Bool.eq_iff_iff.2 (hr1.trans hr2.symm)
  rw [beq_ hA, this]
  simp
end Go.Proofs.Ytclkimgpdnldnaa.Tx
