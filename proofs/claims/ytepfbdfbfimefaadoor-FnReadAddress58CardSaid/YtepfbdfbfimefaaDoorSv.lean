/- The evaluator: a block of the call's own is lent to a function, that turns it. -/
import Derived.Test.YtepfbdfbfimefaaDoorSz
set_option linter.unusedSimpArgs false
set_option linter.unusedVariables false
namespace Go.Se
open Go

theorem rawL_lab {n : Nat} : ∀ {cs : List SV} {vs : List Value}, rawL cs = some vs → labL n cs
  | [], _, _ => trivial
  | .v x :: cs, vs, h => by
    simp only [rawL] at h
    split at h
    · rename_i l hl
      exact ⟨trivial, rawL_lab hl⟩
    · cases h
  | .p _ _ :: _, _, h => by simp [rawL] at h
  | .se _ _ _ _ :: _, _, h => by simp [rawL] at h
  | .ag _ :: _, _, h => by simp [rawL] at h
  | .tu _ :: _, _, h => by simp [rawL] at h
  | .ifc _ _ :: _, _, h => by simp [rawL] at h
  | .fn _ _ _ :: _, _, h => by simp [rawL] at h

theorem find_set {hp : List (Nat × HB)} {L : Nat} {b : HB} : ∀ (l : Nat) (c : HB), find (setHp hp L b) l = some c → (l = L ∧ c = b) ∨ (l ≠ L ∧ find hp l = some c) := by
  induction hp with
  | nil => intro l c h; simp [setHp, find] at h
  | cons x hp ih =>
    obtain ⟨k, y⟩ := x
    intro l c h
    simp only [setHp] at h
    by_cases hk : k = L
    · subst hk
      simp only [Nat.beq_refl, cond_true, find_cons] at h
      by_cases hl : k = l
      · subst hl; simp at h; exact .inl ⟨rfl, h.symm⟩
      · simp only [hl, if_false] at h
        exact .inr ⟨fun he => hl he.symm, by simp only [find_cons, hl, if_false]; exact h⟩
    · have hb : Nat.beq k L = false := by
        cases hc : Nat.beq k L with
        | false => rfl
        | true => exact absurd (Nat.eq_of_beq_eq_true hc) hk
      simp only [hb, cond_false, find_cons] at h
      by_cases hl : k = l
      · subst hl
        simp at h
        exact .inr ⟨hk, by simp [find_cons, h]⟩
      · simp only [hl, if_false] at h
        rcases ih l c h with h1 | ⟨h1, h2⟩
        · exact .inl h1
        · exact .inr ⟨h1, by simp only [find_cons, hl, if_false]; exact h2⟩

theorem CallP.lend {P : Program} {f : Nat} {R : RO} {b : HB} {K0 : RO → List (Nat × HB) → Nat → List Row → SV → Prop} (h : CallP P f [.p 0 0] R [(0, b)] 1 [] K0)
    {hp : List (Nat × HB)} {nx : Nat} {rs : List Row} {L : Nat} {vs : List Value} (hb : find hp L = some b) (hraw : rawL b.cs = some vs) {K : RO → List (Nat × HB) → Nat → List Row → SV → Prop}
    (hk : ∀ R' hp' nx' rs' r, R.le R' → K0 R' hp' nx' rs' r → ∃ b' v vs', find hp' 0 = some b' ∧ rawL b'.cs = some vs' ∧ r = .v v ∧ K R' (setHp hp L b') nx rs (.v v)) : CallP P f [.p L 0] R hp nx rs K := by
  refine ⟨h.fn, fun ρ w hr => ?_⟩
  have hL := hr.lt L (hr.wf L b hb).1
  have hblk := hr.blk L b hb
  rw [rawL_val hraw] at hblk
  have hg := h.go (fun _ => ρ L) w ⟨fun l c hf => by
      simp only [find_cons] at hf
      split at hf
      · simp only [Option.some.injEq] at hf
        subst hf
        rw [rawL_val hraw]
        exact hblk
      · simp [find] at hf,
    fun l l' h1 h2 _ => by omega, fun l _ => hL, hr.ro,
    fun l c hf => by
      simp only [find_cons] at hf
      split at hf
      · exact hr.dis L b hb
      · simp [find] at hf,
    fun l c hf => by
      simp only [find_cons] at hf
      split at hf
      · rename_i h0
        simp only [Option.some.injEq] at hf
        subst hf
        exact ⟨by omega, rawL_lab hraw⟩
      · simp [find] at hf,
    fun r hr => by simp at hr, fun r hr => by simp at hr, List.Pairwise.nil⟩
  refine hg.mono fun e w' ⟨R', hp', nx', rs', ρ', r, q1, q2, q3, q4, q5, q6, q7, qr, q8, q9, q10⟩ => ?_
  obtain ⟨b', v, vs', hb', hraw', rfl, hK⟩ := hk _ _ _ _ _ q4 q10
  have hown : ∀ k, Own (fun _ => ρ L) 1 [] k → k = ρ L := fun k hk => by
    rcases hk with ⟨l, _, rfl⟩ | ⟨r, hr, _⟩
    · rfl
    · simp at hr
  have hsub : ∀ k, Own (fun _ => ρ L) 1 [] k → Own ρ nx rs k := fun k hk => .inl ⟨L, (hr.wf L b hb).1, hown k hk⟩
  have h0 : ρ' 0 = ρ L := q1 0 (by omega)
  have hne : ∀ l c, find hp l = some c → l ≠ L → ρ l ≠ ρ L := fun l c hl hn he => hn (hr.inj l L (hr.wf l c hl).1 (hr.wf L b hb).1 he)
  have hlt : ∀ k o, R k = some o → k < w.heap.size := fun k o hb => by
    have h1 := hr.ro k o hb
    rcases Nat.lt_or_ge k w.heap.size with h2 | h2
    · exact h2
    · rw [Array.getElem?_eq_none h2] at h1; cases h1
  have hno : ∀ k, k < w.heap.size → k ≠ ρ L → R k = none → R' k = none := fun k hk hn hR => by
    cases hx : R' k with
    | none => rfl
    | some o =>
      rcases q5 k o hx with h | h | h
      · rw [hR] at h; cases h
      · omega
      · exact absurd (hown k h) hn
  have hkeep : ∀ k, k < w.heap.size → k ≠ ρ L → w'.heap[k]? = w.heap[k]? := fun k hk hn => q7.block k hk fun ho => hn (hown k ho)
  have hgr : w.grownBy w' (some (ρ L)) := ⟨q7.os, q7.tape, q7.output, q7.size, fun k hk hn => hkeep k hk fun he => hn (by rw [he])⟩
  refine ⟨R', setHp hp L b', nx, rs, ρ, .v v, fun _ _ => rfl, Nat.le_refl _, fun l a c => absurd a (by omega), q4, fun k o hx => ?_, ⟨?_, hr.inj, ?_, q6.ro, ?_, ?_, ?_, ?_, hr.rpair⟩,
    ⟨q7.os, q7.tape, q7.output, q7.size, fun k hk hn => q7.block k hk fun ho => hn (hsub k ho)⟩, fun q hq g hg => .inr (.inr ⟨q, hq, hg⟩), q8, trivial, hK⟩
  · rcases q5 k o hx with h | h | h
    · exact .inl h
    · exact .inr (.inl h)
    · exact .inr (.inr (hsub k h))
  · intro l c hl
    rcases find_set l c hl with ⟨rfl, rfl⟩ | ⟨h1, h2⟩
    · have := q6.blk 0 _ hb'
      rw [h0, rawL_val hraw'] at this
      rw [rawL_val hraw']
      exact this
    · rw [hkeep _ (hr.lt l (hr.wf l c h2).1) (hne l c h2 h1)]
      exact hr.blk l c h2
  · intro l hl; exact Nat.lt_of_lt_of_le (hr.lt l hl) q7.size
  · intro l c hl
    rcases find_set l c hl with ⟨rfl, rfl⟩ | ⟨h1, h2⟩
    · have := q6.dis 0 _ hb'
      rwa [h0] at this
    · exact hno _ (hr.lt l (hr.wf l c h2).1) (hne l c h2 h1) (hr.dis l c h2)
  · intro l c hl
    rcases find_set l c hl with ⟨rfl, rfl⟩ | ⟨h1, h2⟩
    · exact ⟨(hr.wf _ b hb).1, rawL_lab hraw'⟩
    · exact hr.wf l c h2
  · intro q hq
    refine (hr.row q hq).kept hgr ?_
    cases hv : q.v.ownBlock with
    | none => exact .inl rfl
    | some g =>
      refine .inr ?_
      intro he
      simp only [Option.some.injEq] at he
      exact (hr.rdis q hq g hv).2 L b hb he.symm
  · intro q hq g hg
    obtain ⟨c1, c2⟩ := hr.rdis q hq g hg
    refine ⟨hno g (row_lt hr hq hg) (fun he => c2 L b hb he.symm) c1, fun l c hl => ?_⟩
    rcases find_set l c hl with ⟨rfl, rfl⟩ | ⟨h1, h2⟩
    · exact c2 _ b hb
    · exact c2 l c h2

/-- A contract of a call, by the body. -/
theorem callP_vc {P : Program} {f : Nat} {fn : Func} {c : Code} {tys : Nat → Option Ty} {fz : List Nat} {args : List SV} {R : RO} {hp : List (Nat × HB)} {nx : Nat} {rs : List Row} {K : RO → List (Nat × HB) → Nat → List Row → SV → Prop}
    (hf : P.funcs[f]? = some fn) (hb : fn.body = some c) (hn : fn.name ≠ "runtime.NumGoroutine") (hlen : Nat.ble args.length fn.ntmps = true) (hT : TysOk P tys) (hl : labLB nx args = true)
    (h : ∀ (P' : Program) (bin cmp cnv neg com bnot beq ofN toN at_ sub_ scmp cat sget ssz ssub elem fld_), P' = P → (⟨bin, cmp, cnv, neg, com, bnot, beq, ofN, toN, at_, sub_, scmp, cat, sget, ssz, ssub, elem, fld_⟩ : Ar) = Ar.real → codeVC ⟨P', ⟨bin, cmp, cnv, neg, com, bnot, beq, ofN, toN, at_, sub_, scmp, cat, sget, ssz, ssub, elem, fld_⟩, tys, fn.ntmps, fz⟩ c ⟨fr0 0 args, R, hp, nx, rs⟩
      (endVC ⟨P', ⟨bin, cmp, cnv, neg, com, bnot, beq, ofN, toN, at_, sub_, scmp, cat, sget, ssz, ssub, elem, fld_⟩, tys, fn.ntmps, fz⟩ fn.results.toList fun s r => ∀ _ : Unit, K s.R s.hp s.nx s.rw_ r)) : CallP P f args R hp nx rs fun R' hp' nx' rs' r => ∀ _ : Unit, K R' hp' nx' rs' r :=
  callP_of_vc hf hb hn (Nat.le_of_ble_eq_true hlen) hT (labLB_lab hl) fun P' ⟨bin1, cmp1, cnv1, neg1, com1, bnot1, beq1, ofN1, toN1, at_1, sub_1, scmp1, cat1, sget1, ssz1, ssub1, elem1, fld_1⟩ hP hA => h P' bin1 cmp1 cnv1 neg1 com1 bnot1 beq1 ofN1 toN1 at_1 sub_1 scmp1 cat1 sget1 ssz1 ssub1 elem1 fld_1 hP hA
end Go.Se
