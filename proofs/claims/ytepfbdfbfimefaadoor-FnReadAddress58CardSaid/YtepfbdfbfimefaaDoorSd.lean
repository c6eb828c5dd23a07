/- The evaluator is sound: new blocks, stores. -/
import Derived.Test.YtepfbdfbfimefaaDoorSc
set_option linter.unusedSimpArgs false
set_option linter.unusedVariables false
namespace Go.Se
open Go

/-- One block has been written. -/
structure OneBlk (b : Nat) (w w' : World) : Prop where
  os : w'.os = w.os
  tape : w'.tape = w.tape
  output : w'.output = w.output
  size : w'.heap.size = w.heap.size
  block : ∀ k, k ≠ b → w'.heap[k]? = w.heap[k]?

theorem OneBlk.refl (b : Nat) (w : World) : OneBlk b w w := ⟨rfl, rfl, rfl, rfl, fun _ _ => rfl⟩
theorem OneBlk.trans {b : Nat} {w w' w'' : World} (h : OneBlk b w w') (k : OneBlk b w' w'') : OneBlk b w w'' :=
  ⟨k.os.trans h.os, k.tape.trans h.tape, k.output.trans h.output, k.size.trans h.size, fun i hi => (k.block i hi).trans (h.block i hi)⟩

theorem oneBlk_setCell (w : World) (b o : Nat) (v : Value) : OneBlk b w (w.setCell ⟨b, o, none⟩ v) := by
  refine ⟨rfl, rfl, rfl, by simp [World.setCell], fun k hk => ?_⟩
  simp only [World.setCell, Array.getElem?_modify]
  rw [if_neg (by simpa using fun h => hk h.symm)]

theorem setCell_self {w : World} {b o : Nat} {v : Value} {c : Array Value} {T : Nat} {z : Nat × Nat} (h : w.heap[b]? = some (.cells c T z)) :
    (w.setCell ⟨b, o, none⟩ v).heap[b]? = some (.cells (c.setIfInBounds o v) T z) := by
  simp only [World.setCell, Array.getElem?_modify, if_true, h]
  rfl

def putA : List Value → Nat → List Value → List Value
  | cs, _, [] => cs
  | cs, o, x :: xs => putA (cs.set o x) (o + 1) xs

theorem putA_len : ∀ (xs cs : List Value) (o : Nat), (putA cs o xs).length = cs.length
  | [], _, _ => rfl
  | x :: xs, cs, o => by simp [putA, putA_len xs]

theorem valL_set (ρ : Nat → Nat) (cs : List SV) (o : Nat) (x : SV) : valL ρ (cs.set o x) = (valL ρ cs).set o (val ρ x) := by
  simp [valL_map, List.map_set]

theorem valL_putAt (ρ : Nat → Nat) : ∀ (xs cs : List SV) (o : Nat), valL ρ (putAt cs o xs) = putA (valL ρ cs) o (valL ρ xs)
  | [], cs, o => rfl
  | x :: xs, cs, o => by simp [putAt, putA, valL, valL_putAt ρ xs, valL_set]

theorem labL_putAt {n : Nat} : ∀ (xs cs : List SV) (o : Nat), labL n cs → labL n xs → labL n (putAt cs o xs)
  | [], cs, o, h, _ => h
  | x :: xs, cs, o, h, h' => by
    refine labL_putAt xs _ _ ?_ h'.2
    rw [labL_iff] at h ⊢
    intro y hy
    rcases List.mem_or_eq_of_mem_set hy with hy | rfl
    · exact h y hy
    · exact h'.1

def oneV : Value → Bool
  | .agg _ | .tuple _ => false
  | _ => true

theorem one_val {ρ : Nat → Nat} {x : SV} (h : one x = true) : oneV (val ρ x) = true := by
  cases x with
  | v y => cases y <;> simp_all [one, val, oneV]
  | _ => simp_all [one, val, oneV]

theorem OneBlk.grown {b : Nat} {w w' : World} (h : OneBlk b w w') : w.grownBy w' (some b) :=
  ⟨h.os, h.tape, h.output, Nat.le_of_eq h.size.symm, fun k _ hk => h.block k fun he => hk (by rw [he])⟩

section
variable {P : Program}

theorem run_store_cell {w : World} {b o : Nat} {v : Value} {c : List Value} {T : Nat} {fz : Nat × Nat} (h : w.heap[b]? = some (.cells c.toArray T fz)) (hu : UnF c.length fz) (ho : o < c.length)
    (hv : oneV v = true) : (store ⟨b, o, none⟩ v).run P w = .ok () (w.setCell ⟨b, o, none⟩ v) := by
  have hc : w.cell? ⟨b, o, none⟩ = some c[o] := by simp [World.cell?, h, ho]
  have hf : w.frozen? ⟨b, o, none⟩ = false := by
    have := hu o ho
    simp only [World.frozen?, h]
    simp
    omega
  cases v <;> first
    | (simp [oneV] at hv; done)
    | simp [store, Sem.run, hc, hf]

theorem run_storeCells {b : Nat} {T : Nat} {fz : Nat × Nat} : ∀ (vs : List Value) (i off : Nat) (c : List Value) (w : World), w.heap[b]? = some (.cells c.toArray T fz) → UnF c.length fz →
    off + i + vs.length ≤ c.length → (∀ v ∈ vs, oneV v = true) →
    ∃ w', (storeCells ⟨b, off, none⟩ vs i).run P w = .ok () w' ∧ w'.heap[b]? = some (.cells (putA c (off + i) vs).toArray T fz) ∧ OneBlk b w w'
  | [], i, off, c, w, h, _, _, _ => ⟨w, by simp [storeCells, pure, Sem.run], h, .refl _ _⟩
  | v :: vs, i, off, c, w, h, hu, hl, h1 => by
    have ha : (⟨b, off, none⟩ : Addr).add i = ⟨b, off + i, none⟩ := by unfold Addr.add; split <;> simp_all
    simp only [List.length_cons] at hl
    have hs := run_store_cell (P := P) (v := v) h hu (o := off + i) (by omega) (h1 v (by simp))
    have hb := setCell_self (o := off + i) (v := v) h
    obtain ⟨w', hr, hw, ho⟩ := run_storeCells (T := T) (fz := fz) vs (i + 1) off (c.set (off + i) v) (w.setCell ⟨b, off + i, none⟩ v) (by rw [hb]; simp) (by rw [List.length_set]; exact hu)
      (by simp; omega) (fun x hx => h1 x (by simp [hx]))
    refine ⟨w', ?_, ?_, (oneBlk_setCell w b _ v).trans ho⟩
    · simp only [storeCells, bind]
      rw [ha, run_bind_pure hs]
      exact hr
    · rw [hw]; simp [putA, Nat.add_assoc]

theorem run_storeVar {t : Nat} {y : Ty} (hy : tyOf P t = some y) {b : Nat} {T : Nat} {vs : List Value} {off : Nat} {c : List Value} {w : World} {v : Value} {fz : Nat × Nat}
    (hb : w.heap[b]? = some (.cells c.toArray T fz)) (hu : UnF c.length fz) (hv : v.cells = vs.toArray) (hn : vs.length = y.size) (hl : off + vs.length ≤ c.length)
    (h1 : ∀ x ∈ vs, oneV x = true) :
    ∃ w', (storeVar t ⟨b, off, none⟩ v).run P w = .ok () w' ∧ w'.heap[b]? = some (.cells (putA c off vs).toArray T fz) ∧ OneBlk b w w' := by
  obtain ⟨i, d, hi, hd, hz, hs, ht, hg⟩ := tyOf_parts hy
  obtain ⟨w', hr, hw, ho⟩ := run_storeCells (P := P) vs 0 off c w hb hu (by omega) h1
  refine ⟨w', ?_, hw, ho⟩
  simp only [storeVar, bind]
  rw [run_bind_pure (run_size hi)]
  simp only [hv, hs, hn, List.size_toArray, ne_eq, not_true_eq_false, if_false]
  exact hr
end

section
variable {C : Cx} {E : En} {s : St} {ρ : Nat → Nat} {a : Act} {w : World}

theorem row_lt {R : RO} {hp : List (Nat × HB)} {nx : Nat} {rs : List Row} (h : HRel R hp nx rs ρ w) {r : Row} (hr : r ∈ rs) {g : Nat} (hg : r.blk = some g) : g < w.heap.size :=
  ((h.row r hr).lt g hg).2

/-- Rows stay where one block else, or new ones, turn. -/
theorem row_kept {R : RO} {hp : List (Nat × HB)} {nx : Nat} {rs : List Row} (h : HRel R hp nx rs ρ w) {w' : World} {k : Option Nat} (hg : w.grownBy w' k) (hk : ∀ r ∈ rs, r.blk = none ∨ r.blk ≠ k) :
    ∀ r ∈ rs, RowOk w' r := fun r hr => (h.row r hr).kept hg (hk r hr)

theorem find_lt (h : HRel s.R s.hp s.nx s.rw_ ρ w) {l : Nat} {b : HB} (hf : find s.hp l = some b) : l < s.nx := (h.wf l b hf).1

/-- A new block. -/
theorem new_sound (hs : SRel C E s ρ a w) (T : Nat) {cs : List SV} (hl : labL s.nx cs) :
    SRel C E (s.new T cs) (fun l => if l = s.nx then w.heap.size else ρ l) a { w with heap := w.heap.push (.cells (valL ρ cs).toArray T) } ∧
      (∀ x, lab s.nx x → val (fun l => if l = s.nx then w.heap.size else ρ l) x = val ρ x) := by
  have hag : ∀ l, l < s.nx → (fun l => if l = s.nx then w.heap.size else ρ l) l = ρ l := fun l h => by
    show (if l = s.nx then w.heap.size else ρ l) = ρ l
    rw [if_neg (by omega)]
  have hro : s.R w.heap.size = none := by
    cases h : s.R w.heap.size with
    | none => rfl
    | some o => have := hs.hr.ro _ _ h; simp at this
  refine ⟨⟨?_, hs.sz, hs.df, ⟨?_, ?_, ?_, ?_, ?_, ?_, ?_, ?_, hs.hr.rpair⟩, ?_, ?_, ?_, ?_, hs.rle, hs.rfr, hs.rn⟩, fun x hx => val_agree hag x hx⟩
  · intro t x hf
    obtain ⟨h1, h2⟩ := hs.fr t x hf
    exact ⟨by rw [h1, val_agree hag x h2], lab_mono (Nat.le_succ _) x h2⟩
  · intro l b hf
    simp only [St.new, find_cons] at hf
    by_cases he : s.nx = l
    · subst he
      simp at hf
      subst hf
      simp [valL_agree hag cs hl]
    · simp only [he, if_false] at hf
      have hlt := find_lt hs.hr hf
      have h1 := hs.hr.blk l b hf
      have h2 := hs.hr.lt l hlt
      simp only [if_neg (show ¬ l = s.nx by omega)]
      rw [Array.getElem?_push, if_neg (by omega), h1, valL_agree hag b.cs (hs.hr.wf l b hf).2]
  · intro l l' h h' he
    simp only [St.new] at h h'
    by_cases e1 : l = s.nx
    · by_cases e2 : l' = s.nx
      · omega
      · simp only [e1, if_true, e2, if_false] at he
        have := hs.hr.lt l' (by omega)
        omega
    · by_cases e2 : l' = s.nx
      · simp only [e1, if_false, e2, if_true] at he
        have := hs.hr.lt l (by omega)
        omega
      · simp only [e1, if_false, e2] at he
        exact hs.hr.inj l l' (by omega) (by omega) he
  · intro l h
    simp only [St.new] at h
    simp only [Array.size_push]
    by_cases e1 : l = s.nx
    · simp [e1]
    · simp only [e1, if_false]
      have := hs.hr.lt l (by omega)
      omega
  · intro b o h
    have h1 := hs.hr.ro b o h
    have : b < w.heap.size := by
      rcases Nat.lt_or_ge b w.heap.size with h2 | h2
      · exact h2
      · rw [Array.getElem?_eq_none h2] at h1; cases h1
    show (w.heap.push _)[b]? = some o
    rw [Array.getElem?_push, if_neg (by omega), h1]
  · intro l b hf
    simp only [St.new, find_cons] at hf
    by_cases he : s.nx = l
    · subst he
      simp [St.new, hro]
    · simp only [he, if_false] at hf
      have hlt := find_lt hs.hr hf
      simp only [St.new, if_neg (show ¬ l = s.nx by omega)]
      exact hs.hr.dis l b hf
  · intro l b hf
    simp only [St.new, find_cons] at hf
    by_cases he : s.nx = l
    · subst he
      simp at hf
      subst hf
      exact ⟨by simp [St.new], labL_mono (Nat.le_succ _) cs hl⟩
    · simp only [he, if_false] at hf
      obtain ⟨h1, h2⟩ := hs.hr.wf l b hf
      exact ⟨by simp [St.new]; omega, labL_mono (Nat.le_succ _) _ h2⟩
  · exact fun r hr => (hs.hr.row r hr).alloc _
  · intro r hr g hg
    obtain ⟨h1, h2⟩ := hs.hr.rdis r hr g hg
    refine ⟨h1, fun l b hf => ?_⟩
    simp only [St.new, find_cons] at hf
    by_cases he : s.nx = l
    · subst he
      simp only [if_true]
      have := row_lt hs.hr hr hg
      omega
    · simp only [he, if_false] at hf
      have hlt := find_lt hs.hr hf
      simp only [if_neg (show ¬ l = s.nx by omega)]
      exact h2 l b hf
  · intro l h
    have := hs.nx
    simp only [if_neg (show ¬ l = s.nx by omega)]
    exact hs.ag l h
  · have := hs.nx; simp [St.new]; omega
  · refine hs.kp.trans (S' := fun _ => False) ⟨rfl, rfl, rfl, by simp, fun k hk _ => ?_⟩ (fun _ _ h => h.elim)
    show (w.heap.push _)[k]? = _
    rw [Array.getElem?_push, if_neg (by omega)]
  · intro l h h'
    simp only [St.new] at h'
    have := hs.kp.size
    by_cases e1 : l = s.nx
    · simp [e1, this]
    · simp only [e1, if_false]
      exact hs.nw l h (by omega)

theorem find_setHp (l : Nat) (b' : HB) : ∀ (hp : List (Nat × HB)) (k : Nat), find (setHp hp l b') k = if k = l then (find hp l).map (fun _ => b') else find hp k
  | [], k => by simp [setHp, find]
  | (j, b) :: r, k => by
    simp only [setHp]
    by_cases h : j = l
    · subst h
      have : Nat.beq j j = true := Nat.beq_refl j
      simp only [this, cond_true, find_cons]
      by_cases hk : k = j
      · subst hk; simp
      · rw [if_neg (fun h => hk h.symm), if_neg hk, if_neg (fun h => hk h.symm)]
    · have : Nat.beq j l = false := by
        cases hb : Nat.beq j l with
        | false => rfl
        | true => exact absurd (Nat.eq_of_beq_eq_true hb) h
      simp only [this, cond_false, find_cons, find_setHp l b' r k]
      by_cases hk : k = l
      · subst hk; simp [h]
      · simp [hk]

/-- A store into a block of the call's own. -/
theorem store_sound (hs : SRel C E s ρ a w) {l : Nat} {b b' : HB} (hf : find s.hp l = some b) (hT : b'.ty = b.ty) (hl : labL s.nx b'.cs)
    {w' : World} (hb : w'.heap[ρ l]? = some (.cells (valL ρ b'.cs).toArray b.ty (0, 0))) (ho : OneBlk (ρ l) w w') :
    SRel C E { s with hp := setHp s.hp l b' } ρ a w' := by
  have hlt := find_lt hs.hr hf
  refine ⟨hs.fr, hs.sz, hs.df, ⟨?_, hs.hr.inj, ?_, ?_, ?_, ?_, row_kept hs.hr ho.grown (fun r hr => ?_), ?_, hs.hr.rpair⟩, hs.ag, hs.nx, ?_, hs.nw, hs.rle, hs.rfr, hs.rn⟩
  · intro k c hk
    simp only [find_setHp] at hk
    by_cases he : k = l
    · subst he
      simp [hf] at hk
      subst hk
      rw [hb, hT]
    · simp only [he, if_false] at hk
      have hk2 := find_lt hs.hr hk
      rw [ho.block (ρ k) (fun h => he (hs.hr.inj k l hk2 hlt h))]
      exact hs.hr.blk k c hk
  · intro k hk; rw [ho.size]; exact hs.hr.lt k hk
  · intro x o hx
    rw [ho.block x (fun h => by rw [h, hs.hr.dis l b hf] at hx; cases hx)]
    exact hs.hr.ro x o hx
  · intro k c hk
    simp only [find_setHp] at hk
    by_cases he : k = l
    · subst he; exact hs.hr.dis k b hf
    · simp only [he, if_false] at hk
      exact hs.hr.dis k c hk
  · intro k c hk
    simp only [find_setHp] at hk
    by_cases he : k = l
    · subst he
      simp [hf] at hk
      subst hk
      exact ⟨hlt, hl⟩
    · simp only [he, if_false] at hk
      exact hs.hr.wf k c hk
  · cases hb : r.blk with
    | none => exact .inl rfl
    | some g => exact .inr fun he => (hs.hr.rdis r hr g hb).2 l b hf (by simpa using he.symm)
  · intro r hr g hg
    obtain ⟨h1, h2⟩ := hs.hr.rdis r hr g hg
    refine ⟨h1, fun k c hk => ?_⟩
    simp only [find_setHp] at hk
    by_cases he : k = l
    · subst he; exact h2 k b hf
    · simp only [he, if_false] at hk; exact h2 k c hk
  · refine hs.kp.trans (S' := fun x => x = ρ l) ⟨ho.os, ho.tape, ho.output, by rw [ho.size]; exact Nat.le_refl _, fun k hk hn => ho.block k hn⟩ fun x hx he => ?_
    subst he
    rcases Nat.lt_or_ge l E.n with h | h
    · exact .inl ⟨l, h, hs.ag l h⟩
    · have := hs.nw l h hlt; omega
end
end Go.Se
