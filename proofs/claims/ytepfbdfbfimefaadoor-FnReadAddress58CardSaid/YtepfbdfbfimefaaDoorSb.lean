/- The evaluator is sound: one operation. -/
import Derived.Test.YtepfbdfbfimefaaDoorSa
set_option linter.unusedSimpArgs false
set_option linter.unusedVariables false
namespace Go.Se
open Go

section
variable {C : Cx} {E : En} {s : St} {ρ : Nat → Nat} {a : Act} {w : World}

theorem tyOf_all {P : Program} {t : Nat} {y : Ty} (h : tyOf P t = some y) :
    ∃ i d, P.info? t = some i ∧ P.underlying t = some d ∧ i.zero = some y.zero ∧ i.size = y.size ∧ tdOf d = y.d ∧ aggOf d = y.agg ∧ fldsOk P d = true := by
  unfold tyOf at h
  split at h
  · rename_i i d hi hd
    split at h
    · rename_i z hz
      split at h
      · rename_i hf
        simp at h
        subst h
        exact ⟨i, d, hi, hd, hz, rfl, rfl, rfl, hf⟩
      · simp at h
    · simp at h
  · simp at h

theorem tyOf_parts {P : Program} {t : Nat} {y : Ty} (h : tyOf P t = some y) :
    ∃ i d, P.info? t = some i ∧ P.underlying t = some d ∧ i.zero = some y.zero ∧ i.size = y.size ∧ tdOf d = y.d ∧ aggOf d = y.agg := by
  obtain ⟨i, d, h1, h2, h3, h4, h5, h6, _⟩ := tyOf_all h
  exact ⟨i, d, h1, h2, h3, h4, h5, h6⟩

theorem ev_val (hs : SRel C E s ρ a w) {x : Operand} {v : SV} (h : s.ev x = some v) : a.eval x = val ρ v ∧ lab s.nx v := by
  cases x with
  | tmp t =>
    obtain ⟨h1, h2⟩ := hs.fr t v h
    exact ⟨by simp [Act.eval, Array.getD_eq_getD_getElem?, h1], h2⟩
  | const c => simp [St.ev] at h; subst h; exact ⟨rfl, trivial⟩
  | global g => simp [St.ev] at h; subst h; exact ⟨rfl, trivial⟩
  | func f => simp [St.ev] at h; subst h; exact ⟨rfl, trivial⟩

theorem evs_val (hs : SRel C E s ρ a w) : ∀ {xs : List Operand} {vs : List SV}, evs s xs = some vs → xs.map a.eval = valL ρ vs ∧ labL s.nx vs
  | [], vs, h => by simp [evs] at h; subst h; exact ⟨rfl, trivial⟩
  | x :: xs, vs, h => by
    simp only [evs] at h
    split at h
    · rename_i v l hv hl
      simp at h; subst h
      obtain ⟨h1, h2⟩ := ev_val hs hv
      obtain ⟨h3, h4⟩ := evs_val hs hl
      exact ⟨by simp [valL, h1, h3], h2, h4⟩
    · simp at h

theorem find_cons {α : Type} (k : Nat) (x : α) (r : List (Nat × α)) (t : Nat) : find ((k, x) :: r) t = if k = t then some x else find r t := by
  simp only [find]
  by_cases h : k = t
  · subst h; simp
  · have : Nat.beq k t = false := by
      cases hb : Nat.beq k t with
      | false => rfl
      | true => exact absurd (Nat.eq_of_beq_eq_true hb) h
    simp [this, h]

/-- What a state that comes later knows of one that came before. -/
structure Adv (s s' : St) (ρ ρ' : Nat → Nat) : Prop where
  ag : ∀ l, l < s.nx → ρ' l = ρ l
  le : s.R.le s'.R
  nx : s.nx ≤ s'.nx

theorem Adv.refl (s : St) (ρ : Nat → Nat) : Adv s s ρ ρ := ⟨fun _ _ => rfl, fun _ _ h => h, Nat.le_refl _⟩
theorem Adv.trans {s s' s'' : St} {ρ ρ' ρ'' : Nat → Nat} (h : Adv s s' ρ ρ') (k : Adv s' s'' ρ' ρ'') : Adv s s'' ρ ρ'' :=
  ⟨fun l hl => (k.ag l (Nat.lt_of_lt_of_le hl h.nx)).trans (h.ag l hl), fun b o hb => k.le b o (h.le b o hb), Nat.le_trans h.nx k.nx⟩

theorem put_sound' {dst : Option Tmp} {v : SV} {K : St → Prop} (h : s.put C dst v K) (hs : SRel C E s ρ a w) (hl : lab s.nx v) :
    ∃ s', K s' ∧ SRel C E s' ρ (a.put dst (val ρ v)) w ∧ Adv s s' ρ ρ := by
  cases dst with
  | none => exact ⟨s, h, hs, .refl _ _⟩
  | some d =>
    simp only [St.put] at h
    cases hb : Nat.blt d C.n with
    | false => simp [hb] at h
    | true =>
      simp only [hb, cond_true] at h
      have hd : d < a.tmps.size := by
        rw [hs.sz]
        exact Nat.le_of_ble_eq_true hb
      refine ⟨_, h, ⟨?_, ?_, hs.df, hs.hr, hs.ag, hs.nx, hs.kp, hs.nw, hs.rle, hs.rfr, hs.rn⟩, ⟨fun _ _ => rfl, fun _ _ h => h, Nat.le_refl _⟩⟩
      · intro t x hf
        simp only [find_cons] at hf
        by_cases he : d = t
        · subst he
          simp at hf
          subst hf
          exact ⟨by simp [Act.put, hd], hl⟩
        · simp only [he, if_false] at hf
          obtain ⟨h1, h2⟩ := hs.fr t x hf
          exact ⟨by simp [Act.put, Array.getElem?_setIfInBounds, he, h1], h2⟩
      · simp [Act.put, hs.sz]

theorem put_sound {dst : Option Tmp} {v : SV} {K : St → Prop} (h : s.put C dst v K) (hs : SRel C E s ρ a w) (hl : lab s.nx v) :
    ∃ s', K s' ∧ SRel C E s' ρ (a.put dst (val ρ v)) w := let ⟨s', h1, h2, _⟩ := put_sound' h hs hl; ⟨s', h1, h2⟩

/-- What an operation must do: hand on a value, in a world that fits. -/
def Does (C : Cx) (E : En) (s : St) (ρ : Nat → Nat) (o : Oper) (a : Act) (w : World) (K : St → Prop) : Prop :=
  ∃ x w' s' ρ', (execOp a.eval o).run C.P w = .ok (.value x) w' ∧ K s' ∧ SRel C E s' ρ' (a.put o.dst x) w' ∧ Adv s s' ρ ρ'

theorem does_of {o : Oper} {v : SV} {K : St → Prop} {s' : St} {ρ' : Nat → Nat} {w' : World} (hr : (execOp a.eval o).run C.P w = .ok (.value (val ρ' v)) w')
    (h : s'.put C o.dst v K) (hs : SRel C E s' ρ' a w') (hl : lab s'.nx v) (ha : Adv s s' ρ ρ') : Does C E s ρ o a w K := by
  obtain ⟨s'', hk, hs'', ha'⟩ := put_sound' h hs hl
  exact ⟨_, _, _, _, hr, hk, hs'', ha.trans ha'⟩

theorem run_bind_pure {P : Program} {α β : Type} {e : Sem α} {f : α → Sem β} {w w' : World} {x : α} (h : e.run P w = .ok x w') :
    (e.bind f).run P w = (f x).run P w' := by
  induction e generalizing w with
  | pure a => simp [Sem.run] at h; obtain ⟨rfl, rfl⟩ := h; rfl
  | load m b k ih =>
    simp only [Sem.run, Sem.bind] at h ⊢
    split at h
    · rename_i v hv; exact ih _ h
    · split at h
      · exact ih _ h
      · simp at h
  | store m b v k ih =>
    cases v <;> simp only [Sem.run, Sem.bind] at h ⊢ <;> first
      | (simp at h; done)
      | (split at h
         · split at h
           · simp at h
           · rename_i h1 h2; simp only [h2]; exact ih h
         · split at h
           · exact ih h
           · simp at h)
  | new o k ih => simp only [Sem.run, Sem.bind] at h ⊢; exact ih _ h
  | shape r k ih => simp only [Sem.run, Sem.bind] at h ⊢; exact ih _ h
  | freeze b n k ih => simp only [Sem.run, Sem.bind] at h ⊢; exact ih h
  | frozen b k ih => simp only [Sem.run, Sem.bind] at h ⊢; exact ih _ h
  | getObj r k ih =>
    simp only [Sem.run, Sem.bind] at h ⊢
    split at h <;> first | (simp at h; done) | exact ih _ h
  | setObj r o k ih =>
    simp only [Sem.run, Sem.bind] at h ⊢
    split at h <;> first | (simp at h; done) | exact ih h
  | choose q k ih =>
    simp only [Sem.run, Sem.bind] at h ⊢
    split at h
    · rename_i hq; simp only [hq, if_true]; exact ih _ h
    · rename_i hq; simp only [hq]; exact ih _ h
  | sys c k ih => simp only [Sem.run, Sem.bind] at h ⊢; exact ih _ h
  | program k ih => simp only [Sem.run, Sem.bind] at h ⊢; exact ih _ h
  | mark m k ih => simp only [Sem.run, Sem.bind] at h ⊢; exact ih h
  | halt e => simp [Sem.run] at h
end
end Go.Se
