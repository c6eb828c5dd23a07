/- The evaluator: contracts, calls by contract, the row's end. -/
import Derived.Test.YtclkimgpdnldnaaSk
set_option linter.unusedSimpArgs false
set_option linter.unusedVariables false
namespace Go.Se
open Go Go.RowKit

/-- The blocks of a call's own, now told as read-only memory. -/
def Pub (hp : List (Nat × HB)) (ρ : Nat → Nat) (R : RO) : Prop := ∀ l b, find hp l = some b → R (ρ l) = some (.cells (valL ρ b.cs).toArray b.ty (0, 0))

/-- What a function answers, and what is known of memory behind it; nothing that was there has turned. -/
structure RetP (P : Program) (f : Nat) (vs : List Value) (R : RO) (Ψ : RO → Value → Prop) : Prop where
  fn : ∃ g, P.funcs[f]? = some g ∧ g.name ≠ "runtime.NumGoroutine" ∧ g.body.isSome = true
  go : ∀ w : World, (∀ b o, R b = some o → w.heap[b]? = some o) → Calls P f vs.toArray w fun e w' =>
    ∃ R' v, R.le R' ∧ RO.fresh w R R' ∧ (∀ b o, R' b = some o → w'.heap[b]? = some o) ∧ Keep (fun _ => False) w w' ∧ e = .returned v ∧ Ψ R' v

theorem RO.le_refl (R : RO) : R.le R := fun _ _ h => h
theorem RO.le_trans {a b c : RO} (h : a.le b) (k : b.le c) : a.le c := fun x o hx => k x o (h x o hx)

theorem RetP.mono {P : Program} {f : Nat} {vs : List Value} {R : RO} {Ψ Ψ' : RO → Value → Prop} (h : RetP P f vs R Ψ) (hk : ∀ R' v, R.le R' → Ψ R' v → Ψ' R' v) : RetP P f vs R Ψ' :=
  ⟨h.fn, fun w hw => (h.go w hw).mono fun e w' ⟨R', v, h1, h2, h3, h4, h5, h6⟩ => ⟨R', v, h1, h2, h3, h4, h5, hk _ _ h1 h6⟩⟩

theorem valL_raw (ρ : Nat → Nat) (vs : List Value) : valL ρ (vs.map .v) = vs := by
  rw [valL_map, List.map_map]
  conv => rhs; rw [← List.map_id vs]
  rfl

open Classical in
theorem RetP.of_callP {P : Program} {f : Nat} {vs : List Value} {R : RO} {Ψ : RO → Value → Prop}
    (h : CallP P f (vs.map .v) R [] 0 fun R' hp' _ r => ∀ ρ R'', R'.le R'' → Pub hp' ρ R'' → Ψ R'' (val ρ r)) : RetP P f vs R Ψ := by
  refine ⟨h.fn, fun w hw => ?_⟩
  have hg := h.go (fun _ => 0) w ⟨fun l b hf => by simp [find] at hf, fun l _ hl => absurd hl (by omega), fun l hl => absurd hl (by omega), hw,
    fun l b hf => by simp [find] at hf, fun l b hf => by simp [find] at hf⟩
  rw [valL_raw] at hg
  refine hg.mono fun e w' ⟨R', hp', nx', ρ', r, q1, q2, q3, q4, q5, q6, q7, q8, q9, q10⟩ => ?_
  let R'' : RO := fun b => if hx : ∃ q : Nat × HB, find hp' q.1 = some q.2 ∧ ρ' q.1 = b then
    some (.cells (valL ρ' (Classical.choose hx).2.cs).toArray (Classical.choose hx).2.ty (0, 0)) else R' b
  have hR : ∀ b, (∀ l k, find hp' l = some k → ρ' l ≠ b) → R'' b = R' b := fun b hb => by
    show dite _ _ _ = _
    rw [dif_neg]
    rintro ⟨⟨l, k⟩, h1, h2⟩
    exact hb l k h1 h2
  have hP : ∀ l k, find hp' l = some k → R'' (ρ' l) = some (.cells (valL ρ' k.cs).toArray k.ty (0, 0)) := fun l k hk => by
    have hx : ∃ q : Nat × HB, find hp' q.1 = some q.2 ∧ ρ' q.1 = ρ' l := ⟨(l, k), hk, rfl⟩
    show dite _ _ _ = _
    rw [dif_pos hx]
    have hs := Classical.choose_spec hx
    generalize Classical.choose hx = q at hs ⊢
    obtain ⟨l', k'⟩ := q
    obtain rfl := q6.inj _ _ (q6.wf _ _ hs.1).1 (q6.wf _ _ hk).1 hs.2
    have hk2 := hs.1
    simp only at hk2
    rw [hk] at hk2
    simp only [Option.some.injEq] at hk2
    subst hk2
    rfl
  have hle : R'.le R'' := fun b o hb => by
    rw [hR b fun l k hk he => by rw [← he, q6.dis l k hk] at hb; cases hb]
    exact hb
  refine ⟨R'', _, RO.le_trans q4 hle, ?_, ?_, ⟨q7.os, q7.tape, q7.output, q7.size, fun k hk _ => q7.block k hk (by rintro ⟨l, hl, _⟩; omega)⟩, q8, q10 ρ' R'' hle hP⟩
  · intro b o hb
    by_cases hx : ∃ l k, find hp' l = some k ∧ ρ' l = b
    · obtain ⟨l, k, h1, rfl⟩ := hx
      exact .inr (q3 l (Nat.zero_le _) (q6.wf _ _ h1).1)
    · rw [hR b fun l k h1 h2 => hx ⟨l, k, h1, h2⟩] at hb
      exact q5 b o hb
  · intro b o hb
    by_cases hx : ∃ l k, find hp' l = some k ∧ ρ' l = b
    · obtain ⟨l, k, h1, rfl⟩ := hx
      rw [hP l k h1] at hb
      simp only [Option.some.injEq] at hb
      rw [← hb]
      exact q6.blk l k h1
    · rw [hR b fun l k h1 h2 => hx ⟨l, k, h1, h2⟩] at hb
      exact q6.ro b o hb

/-- A contract, by the body. -/
theorem retP_of_vc {P : Program} {f : Nat} {fn : Func} {c : Code} {tys : Nat → Option Ty} {vs : List Value} {R : RO} {Ψ : RO → Value → Prop}
    (hf : P.funcs[f]? = some fn) (hb : fn.body = some c) (hn : fn.name ≠ "runtime.NumGoroutine") (hlen : Nat.ble vs.length fn.ntmps = true) (hT : TysOk P tys)
    (h : ∀ P' A, P' = P → A = Ar.real → codeVC ⟨P', A, tys, fn.ntmps⟩ c ⟨fr0 0 (vs.map .v), R, [], 0⟩
      (endVC ⟨P', A, tys, fn.ntmps⟩ fn.results.toList fun s r => ∀ ρ R'', s.R.le R'' → Pub s.hp ρ R'' → Ψ R'' (val ρ r))) : RetP P f vs R Ψ :=
  .of_callP (callP_of_vc hf hb hn (by simpa using Nat.le_of_ble_eq_true hlen) hT (by rw [labL_iff]; intro x hx; obtain ⟨v, _, rfl⟩ := List.mem_map.1 hx; trivial) h)

/-- A call by contract: the blocks of the caller's own stay as they are. -/
theorem RetP.callP {P : Program} {f : Nat} {vs : List Value} {R : RO} {Ψ : RO → Value → Prop} (h : RetP P f vs R Ψ) {hp : List (Nat × HB)} {nx : Nat} {args : List SV}
    (ha : args = vs.map .v) {K : RO → List (Nat × HB) → Nat → SV → Prop} (hk : ∀ R' v, R.le R' → Ψ R' v → K R' hp nx (.v v)) : CallP P f args R hp nx K := by
  subst ha
  refine ⟨h.fn, fun ρ w hr => ?_⟩
  rw [valL_raw]
  refine (h.go w hr.ro).mono fun e w' ⟨R', v, h1, h2, h3, h4, h5, h6⟩ => ?_
  refine ⟨R', hp, nx, ρ, .v v, fun _ _ => rfl, Nat.le_refl _, fun l a b => absurd a (by omega), h1, h2, ⟨?_, hr.inj, ?_, h3, ?_, hr.wf⟩,
    ⟨h4.os, h4.tape, h4.output, h4.size, fun k hk _ => h4.block k hk (fun h => h)⟩, h5, trivial, hk R' v h1 h6⟩
  · intro l b hb
    rw [h4.block _ (hr.lt l (hr.wf l b hb).1) (fun h => h)]
    exact hr.blk l b hb
  · intro l hl; exact Nat.lt_of_lt_of_le (hr.lt l hl) h4.size
  · intro l b hb
    cases hR : R' (ρ l) with
    | none => rfl
    | some o =>
      rcases h2 _ _ hR with h' | h'
      · rw [hr.dis l b hb] at h'; cases h'
      · have := hr.lt l (hr.wf l b hb).1; omega

/-- The row's walk. -/
theorem RetP.walk {P : Program} {f : Nat} {vs : List Value} {w : World} {Ψ : RO → Value → Prop} (h : RetP P f vs (fun b => w.heap[b]?) Ψ) {v : Value} (hv : ∀ R x, Ψ R x → x = v) :
    Calls P f vs.toArray w fun e w' => e = .returned v ∧ Below w.heap.size w w' :=
  (h.go w fun b o hb => hb).mono fun e w' ⟨R', x, h1, h2, h3, h4, h5, h6⟩ => ⟨by rw [h5, hv R' x h6], h4.os, h4.tape, h4.output, h4.size, fun k hk => h4.block k hk (fun h => h)⟩

def AllTy (P : Program) : List (Nat × Ty) → Prop
  | [] => True
  | x :: r => tyOf P x.1 = some x.2 ∧ AllTy P r

theorem tysOk_of {P : Program} : ∀ {l : List (Nat × Ty)}, AllTy P l → TysOk P fun t => find l t
  | [], _ => fun t y h => by simp [find] at h
  | (k, x) :: r, ha => fun t y h => by
    simp only [find_cons] at h
    by_cases he : k = t
    · subst he
      simp at h
      subst h
      exact ha.1
    · simp only [he, if_false] at h
      exact tysOk_of ha.2 t y h

/-- A call whose body is walked in place. -/
theorem callP_in {P P0 : Program} {A : Ar} {f : Nat} {fn : Func} {c : Code} {tys : Nat → Option Ty} {args : List SV} {R : RO} {hp : List (Nat × HB)} {nx : Nat} {K : RO → List (Nat × HB) → Nat → SV → Prop}
    (hP : P = P0) (hA : A = .real) (hf : P0.funcs[f]? = some fn) (hb : fn.body = some c) (hn : fn.name ≠ "runtime.NumGoroutine") (hlen : Nat.ble args.length fn.ntmps = true)
    (hT : TysOk P0 tys) (hl : labL nx args)
    (h : codeVC ⟨P, A, tys, fn.ntmps⟩ c ⟨fr0 0 args, R, hp, nx⟩ (endVC ⟨P, A, tys, fn.ntmps⟩ fn.results.toList fun s r => K s.R s.hp s.nx r)) : CallP P f args R hp nx K := by
  subst hP hA
  exact callP_of_vc hf hb hn (Nat.le_of_ble_eq_true hlen) hT hl fun P' A hP hA => by subst hP hA; exact h

theorem br_t {x : Bool} {p q : Unit → Prop} (h : x = true) (h1 : p ()) : (bif x then p else q) () := by subst h; exact h1
theorem br_f {x : Bool} {p q : Unit → Prop} (h : x = false) (h1 : q ()) : (bif x then p else q) () := by subst h; exact h1

theorem br_of {x : Bool} {p q : Unit → Prop} (h1 : x = true → p ()) (h2 : x = false → q ()) : (bif x then p else q) () := by
  cases x with
  | true => exact h1 rfl
  | false => exact h2 rfl
end Go.Se
