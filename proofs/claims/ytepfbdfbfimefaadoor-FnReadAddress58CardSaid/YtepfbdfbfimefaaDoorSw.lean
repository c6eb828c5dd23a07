/- The evaluator: nested data in read-only memory, out of what the row's form tells of an argument. -/
import Derived.Test.YtepfbdfbfimefaaDoorSn
import Derived.ChangeArms
set_option linter.unusedSimpArgs false
set_option linter.unusedVariables false
namespace Go.Se
open Go

/-- Cells that are known to lie one behind the other. -/
def CellsAt (R : RO) (ad : Addr) (cs : List Value) : Prop := ∀ (j : Nat) (v : Value), cs[j]? = some v → rcell R (ad.add j) = some v

theorem CellsAt.le {R R' : RO} {ad : Addr} {cs : List Value} (h : CellsAt R ad cs) (hl : R.le R') : CellsAt R' ad cs := fun j v hv => rcell_le hl (h j v hv)

theorem CellsAt.part {R : RO} {ad : Addr} {cs : List Value} (h : CellsAt R ad cs) (o n : Nat) : CellsAt R (ad.add o) ((cs.drop o).take n) := fun j v hv => by
  rw [add_add]
  rw [List.getElem?_take] at hv
  split at hv
  · rw [List.getElem?_drop] at hv; exact h _ v hv
  · cases hv

/-- A value that reads as a list: its elements, of sz cells each, are known, and each reads as the list's. -/
structure LAt {α : Type} (R : RO) (sz : Nat) (p : RO → List Value → α → Prop) (a : Option Addr) (n c : Nat) (xs : List α) : Prop where
  len : n = xs.length
  cap : n ≤ c
  mx : n ≤ maxLen
  at_ : ∀ (i : Nat) (x : α), xs[i]? = some x → ∃ ad cs, a = some ad ∧ cs.length = sz ∧ CellsAt R (ad.add (i * sz)) cs ∧ p R cs x

section
variable {H : Type} {enc : TypeId × Value → H} {P : Program} {w : World} {base : Nat} {sp : Nat → Bool} {held : Bool}

theorem mapM_at {α β : Type} {f : α → Option β} : ∀ (l : List α) (cs : List β), l.mapM f = some cs → cs.length = l.length ∧ ∀ (j : Nat) (v : β), cs[j]? = some v → ∃ x, l[j]? = some x ∧ f x = some v
  | [], cs, h => by simp at h; subst h; simp
  | x :: l, cs, h => by
    rw [List.mapM_cons] at h
    cases hx : f x with
    | none => simp [hx] at h
    | some y =>
      cases hl : l.mapM f with
      | none => simp [hx, hl] at h
      | some ys =>
        simp [hx, hl] at h
        subst h
        obtain ⟨h1, h2⟩ := mapM_at l ys hl
        refine ⟨by simp [h1], fun j v hv => ?_⟩
        cases j with
        | zero => simp at hv; subst hv; exact ⟨x, rfl, hx⟩
        | succ j => exact h2 j v (by simpa using hv)

theorem rcell_heap {ad : Addr} {v : Value} (h : w.cell? ad = some v) : rcell (fun b => w.heap[b]?) ad = some v := h

theorem cells_at {ad : Addr} {n : Nat} {cs : List Value} (h : w.cells? base ad n = some cs) : cs.length = n ∧ CellsAt (fun b => w.heap[b]?) ad cs := by
  unfold World.cells? at h
  split at h
  · obtain ⟨h1, h2⟩ := mapM_at _ _ h
    refine ⟨by simpa using h1, fun j v hv => ?_⟩
    obtain ⟨x, hx, hc⟩ := h2 j v hv
    have hj : x = j := by
      rcases Nat.lt_or_ge j n with h' | h'
      · rw [List.getElem?_range h'] at hx; simpa using hx.symm
      · rw [List.getElem?_eq_none (by simpa using h')] at hx; cases hx
    subst hj
    exact rcell_heap hc
  · cases h

theorem choose_list {α : Type} {q : Nat → α → Prop} : ∀ n, (∀ i, i < n → ∃ y, q i y) → ∃ xs : List α, xs.length = n ∧ ∀ (i : Nat) (x : α), xs[i]? = some x → q i x
  | 0, _ => ⟨[], rfl, fun i x hx => by simp at hx⟩
  | k + 1, hall => by
    obtain ⟨xs, h1, h2⟩ := choose_list k fun i hi => hall i (by omega)
    obtain ⟨y, hy⟩ := hall k (by omega)
    refine ⟨xs ++ [y], by simp [h1], fun i x hx => ?_⟩
    rw [List.getElem?_append] at hx
    split at hx
    · exact h2 i x hx
    · rename_i hi
      have : i = k := by
        rcases Nat.lt_or_ge (i - xs.length) 1 with h | h
        · omega
        · rw [List.getElem?_eq_none (by simpa using h)] at hx; cases hx
      subst this
      rw [h1, Nat.sub_self] at hx
      simp at hx
      subst hx
      exact hy

/-- A slice, out of the row's form. -/
theorem LAt.of_trod {α : Type} {p : RO → List Value → α → Prop} {t e fuel : Nat} {cs : List Value} {x : DataW H × List MemPlace} (ht : P.underlying t = some (.slice e)) (h : DataW.trod enc P w base sp held fuel t cs = some x)
    (he : ∀ fuel cs x, DataW.trod enc P w base sp held fuel e cs = some x → cs.length = P.cellsOf e → ∃ y, p (fun b => w.heap[b]?) cs y) :
    ∃ a n c xs, cs = [.slice a n c] ∧ LAt (fun b => w.heap[b]?) (P.cellsOf e) p a n c xs := by
  rcases DataW.trod_slice ht h with ⟨hcs, _⟩ | ⟨a, len, cap, elems, rest, n, _, hcs, hx, _, hl, hm, hlen, hel, _⟩
  · exact ⟨none, 0, 0, [], hcs, rfl, Nat.le_refl _, Nat.zero_le _, fun i x hx => by simp at hx⟩
  · have hall : ∀ i, i < len → ∃ y cs', cs'.length = P.cellsOf e ∧ CellsAt (fun b => w.heap[b]?) (a.add (i * P.cellsOf e)) cs' ∧ p (fun b => w.heap[b]?) cs' y := fun i hi => by
      have h1 := hel i hi
      have h2 : elems[i]? = some elems[i] := List.getElem?_eq_getElem (by omega)
      rw [h2, Option.bind_eq_some_iff] at h1
      obtain ⟨cs', h3, h4⟩ := h1
      obtain ⟨h5, h6⟩ := cells_at h3
      obtain ⟨y, hy⟩ := he _ _ _ h4 h5
      exact ⟨y, cs', h5, h6, hy⟩
    obtain ⟨xs, h1, h2⟩ := choose_list len hall
    exact ⟨some a, len, cap, xs, hcs, h1.symm, hl, Nat.le_trans hl hm, fun i x hx => by obtain ⟨cs', c1, c2, c3⟩ := h2 i x hx; exact ⟨a, cs', rfl, c1, c2, c3⟩⟩
end

section
variable {H : Type} {enc : TypeId × Value → H} {P : Program} {w : World} {base : Nat} {sp : Nat → Bool} {held : Bool} {fuel : Nat} {cs : List Value} {x : DataW H × List MemPlace}

theorem cellsOf_of {t : Nat} {y : Ty} (h : tyOf P t = some y) : P.cellsOf t = y.size := by
  obtain ⟨i, d, hi, hd, hz, hs, ht, hg⟩ := tyOf_parts h
  simp [Program.cellsOf, hi, hs]

/-- The fields of a struct, out of the row's form. -/
theorem struct_of {t : Nat} {y : Ty} {l : List (Nat × Nat)} (hy : tyOf P t = some y) (hd : y.d = .stc l) (h : DataW.trod enc P w base sp held fuel t cs = some x) :
    cs.length = y.size ∧ ∃ n, ∀ p ∈ l, ∃ z, DataW.trod enc P w base sp held n p.2 ((cs.drop p.1).take (P.cellsOf p.2)) = some z := by
  obtain ⟨d, h1, h2⟩ := und_of hy
  rw [hd] at h2
  obtain ⟨fs, rfl, rfl⟩ := td_stc h2
  obtain ⟨xs, n, _, _, h3, h4, h5⟩ := DataW.trod_struct h1 h
  refine ⟨by rw [h3, cellsOf_of hy], n, fun p hp => ?_⟩
  obtain ⟨f, hf, rfl⟩ := List.mem_map.1 hp
  obtain ⟨i, hi, hfi⟩ := List.getElem_of_mem hf
  have hi' : i < fs.size := by simpa using hi
  have hfa : fs[i]? = some f := by rw [Array.getElem?_eq_getElem hi']; simp at hfi; rw [hfi]
  have h6 := h5 i f hfa
  rw [List.getElem?_eq_getElem (by omega)] at h6
  exact ⟨_, h6⟩

/-- The elements of an array. -/
theorem array_of {t n e : Nat} {y : Ty} (hy : tyOf P t = some y) (hd : y.d = .arr n e) (h : DataW.trod enc P w base sp held fuel t cs = some x) :
    cs.length = y.size ∧ ∃ m, ∀ i, i < n → ∃ z, DataW.trod enc P w base sp held m e ((cs.drop (i * P.cellsOf e)).take (P.cellsOf e)) = some z := by
  obtain ⟨d, h1, h2⟩ := und_of hy
  rw [hd] at h2
  obtain rfl := td_arr h2
  cases fuel with
  | zero => simp [DataW.trod] at h
  | succ m =>
    unfold DataW.trod at h
    rw [h1] at h
    split at h <;> simp_all
    obtain ⟨xs, hm, _⟩ := h.2
    obtain ⟨k1, k2⟩ := mapM_at _ _ hm
    refine ⟨cellsOf_of hy, m, fun i hi => ?_⟩
    have hlt : i < xs.length := by rw [k1]; simpa using hi
    obtain ⟨j, hj, hz⟩ := k2 i xs[i] (List.getElem?_eq_getElem hlt)
    rw [List.getElem?_range (by simpa using hi)] at hj
    simp at hj
    subst hj
    exact ⟨_, _, hz⟩
end

theorem LAt.le {α : Type} {R R' : RO} {sz : Nat} {p : RO → List Value → α → Prop} {a : Option Addr} {n c : Nat} {xs : List α} (h : LAt R sz p a n c xs) (hl : R.le R')
    (hp : ∀ cs x, p R cs x → p R' cs x) : LAt R' sz p a n c xs :=
  ⟨h.len, h.cap, h.mx, fun i x hx => let ⟨ad, cs, h1, h2, h3, h4⟩ := h.at_ i x hx; ⟨ad, cs, h1, h2, h3.le hl, hp cs x h4⟩⟩

theorem LAt.some {α : Type} {R : RO} {sz : Nat} {p : RO → List Value → α → Prop} {a : Option Addr} {n c : Nat} {xs : List α} (h : LAt R sz p a n c xs) {i : Nat} (hi : i < n) : a.isSome = true := by
  have hl := h.len
  obtain ⟨ad, _, rfl, _⟩ := h.at_ i xs[i] (List.getElem?_eq_getElem (by omega))
  rfl

section
variable {bin : BinOp → IntKind → Int → Int → Int} {cmp : BinOp → Int → Int → Bool} {cnv : IntKind → Int → Int} {neg : IntKind → Int → Int} {com : IntKind → Int → Int} {bnot : Bool → Bool} {beq : Bool → Bool → Bool} {ofN : Nat → Int} {toN : Int → Nat} {at_ : Nat → Nat → Nat → Nat} {sub_ : Nat → Nat → Nat} {scmp : BinOp → ByteArray → ByteArray → Bool} {cat : ByteArray → ByteArray → ByteArray} {sget : ByteArray → Int → Int} {ssz : ByteArray → Nat} {ssub : ByteArray → Nat → Nat → ByteArray} {elem : Option Addr → Int → Nat → Addr} {fld_ : Addr → Nat → Addr}
  (hA : (⟨bin, cmp, cnv, neg, com, bnot, beq, ofN, toN, at_, sub_, scmp, cat, sget, ssz, ssub, elem, fld_⟩ : Ar) = Ar.real)
include hA

/-- An index of a list and the element there. -/
theorem ix_at {α : Type} {R : RO} {sz : Nat} {p : RO → List Value → α → Prop} {a : Option Addr} {n c : Nat} {xs : List α} (h : LAt R sz p a n c xs) {i : Int} (j : Nat) (hj : i = j) (h1 : j < n) {q : Prop} (hq : q) : Idx i (ofN n) a q :=
  ⟨by omega, by rw [ofN_ hA]; omega, h.some h1, hq⟩

/-- One cell of a field of an element is read. -/
theorem ld_fld {α : Type} {R : RO} {rs : List Row} {sz : Nat} {p : RO → List Value → α → Prop} {a : Option Addr} {n c : Nat} {xs : List α} (h : LAt R sz p a n c xs) {i : Int} (j : Nat) (hj : i = j) {x : α} (hx : xs[j]? = some x) (o : Nat)
    {K : Value → Prop} (hk : ∀ cs, cs.length = sz → p R cs x → ∃ v, cs[o]? = some v ∧ K v) : LoadP R rs (fld_ (elem a i sz) o) false 1 K := by
  obtain ⟨ad, cs, rfl, h1, h2, h3⟩ := h.at_ j x hx
  obtain ⟨v, h4, h5⟩ := hk cs h1 h3
  refine ⟨v, .inl ?_, h5⟩
  rw [elem_is hA, fld__is hA, hj]
  exact h2 o v h4

/-- One cell of an element is read. -/
theorem ld_elem {α : Type} {R : RO} {rs : List Row} {p : RO → List Value → α → Prop} {a : Option Addr} {n c : Nat} {xs : List α} (h : LAt R 1 p a n c xs) {i : Int} (j : Nat) (hj : i = j) {x : α} (hx : xs[j]? = some x)
    {K : Value → Prop} (hk : ∀ cs, cs.length = 1 → p R cs x → ∃ v, cs[0]? = some v ∧ K v) : LoadP R rs (elem a i 1) false 1 K := by
  obtain ⟨ad, cs, rfl, h1, h2, h3⟩ := h.at_ j x hx
  obtain ⟨v, h4, h5⟩ := hk cs h1 h3
  refine ⟨v, .inl ?_, h5⟩
  rw [elem_is hA, hj]
  have := h2 0 v h4
  simpa [Addr.add, Ar.real] using this

/-- A stretch of a field of an element is read, as one value. -/
theorem ld_part {α : Type} {R : RO} {rs : List Row} {sz : Nat} {p : RO → List Value → α → Prop} {a : Option Addr} {n c : Nat} {xs : List α} (h : LAt R sz p a n c xs) {i : Int} (j : Nat) (hj : i = j) {x : α} (hx : xs[j]? = some x) (o m : Nat) (hm : o + m ≤ sz)
    {K : Value → Prop} (hk : ∀ cs, cs.length = sz → p R cs x → K (.agg ((cs.drop o).take m).toArray)) : LoadP R rs (fld_ (elem a i sz) o) true m K := by
  obtain ⟨ad, cs, rfl, h1, h2, h3⟩ := h.at_ j x hx
  refine ⟨_, ⟨_, rfl, by simp; omega, fun k v hv => .inl ?_⟩, hk cs h1 h3⟩
  rw [elem_is hA, fld__is hA, hj]
  exact h2.part o m k v hv

/-- A whole element is read, as one value. -/
theorem ld_whole {α : Type} {R : RO} {rs : List Row} {sz : Nat} {p : RO → List Value → α → Prop} {a : Option Addr} {n c : Nat} {xs : List α} (h : LAt R sz p a n c xs) {i : Int} (j : Nat) (hj : i = j) {x : α} (hx : xs[j]? = some x)
    {K : Value → Prop} (hk : ∀ cs, cs.length = sz → p R cs x → K (.agg cs.toArray)) : LoadP R rs (elem a i sz) true sz K := by
  obtain ⟨ad, cs, rfl, h1, h2, h3⟩ := h.at_ j x hx
  refine ⟨_, ⟨cs, rfl, h1, fun k v hv => .inl ?_⟩, hk cs h1 h3⟩
  rw [elem_is hA, hj]
  exact h2 k v hv
end
end Go.Se
