/- A script of many: plain. -/
import Derived.Test.YtbakdoienfmacaaTkb
set_option linter.unusedSimpArgs false
set_option linter.unusedVariables false
namespace Go.Proofs.Ytbakdoienfmacaa.Tk
open Go Go.Se Go.Proofs

theorem Toks.place {xs : List Int} {l : List Tok} {p : Nat} (h : Toks xs l p) : ∀ {p' : Nat}, Toks xs l p' → p' = p := by
  induction h with
  | nil =>
    intro p' h'
    generalize hl : ([] : List Tok) = l at h'
    cases h' with
    | nil => rfl
    | snoc h ho hs => simp at hl
  | snoc h ho hs ih =>
    intro p' h'
    rename_i l1 p1 op1 d1 k1
    generalize hl : l1 ++ [⟨op1, d1, p1⟩] = l at h'
    cases h' with
    | nil => simp at hl
    | snoc h2 ho2 hs2 =>
      rename_i l2 p2 op2 d2 k2
      have hl2 := List.append_inj' hl rfl
      simp only [List.cons.injEq, Tok.mk.injEq, and_true] at hl2
      obtain ⟨rfl, rfl, rfl, rfl⟩ := hl2
      rw [hs] at hs2
      simp only [Option.some.injEq, Prod.mk.injEq, true_and] at hs2
      rw [hs2]

/-- The last token, taken off. -/
theorem Toks.unsnoc {xs : List Int} {l : List Tok} {t : Tok} {p : Nat} (h : Toks xs (l ++ [t]) p) : ∃ k, Toks xs l t.pos ∧ xs[t.pos]? = some t.op ∧ stepT (xs.drop t.pos) = some (t.data, k) ∧ p = t.pos + k := by
  generalize hl : l ++ [t] = l' at h
  cases h with
  | nil => simp at hl
  | snoc h2 ho2 hs2 =>
    have hl2 := List.append_inj' hl rfl
    simp only [List.cons.injEq, and_true] at hl2
    obtain ⟨rfl, rfl⟩ := hl2
    exact ⟨_, h2, ho2, hs2, rfl⟩

theorem nextT_prefix (xs : List Int) (s : List Tok × Nat) : s.1 <+: (nextT xs s).1 := by
  unfold nextT
  split
  · exact List.prefix_append _ _
  · exact List.prefix_refl _

theorem runT_prefix (xs : List Int) (n : Nat) : ∀ m, (runT xs n).1 <+: (runT xs (n + m)).1
  | 0 => List.prefix_refl _
  | m + 1 => by
    rw [← Nat.add_assoc, runT]
    exact (runT_prefix xs n m).trans (nextT_prefix _ _)

/-- Tokens that were cut begin all tokens. -/
theorem Toks.begins {xs : List Int} {l L : List Tok} {p P : Nat} (h : Toks xs l p) (h' : Toks xs L P) (hs : Stuck xs P) : l <+: L := by
  obtain ⟨n, hn⟩ := h.run
  obtain ⟨m, hm⟩ := h'.run
  have h1 := runT_prefix xs n m
  rw [Nat.add_comm n m, run_stuck hm hs n, hn] at h1
  exact h1

/-- An opcode's small number. -/
def smallV (op : Int) : Option Int := if op = 0 then some 0 else if 81 ≤ op ∧ op ≤ 96 then some (op - 80) else none

/-- Tokens of a script of many: k keys, s signatures. -/
def ManyIs (l : List Tok) (k s : Int) : Prop :=
  3 ≤ l.length ∧ (∃ t, l[l.length - 1]? = some t ∧ t.op = 174) ∧ (∃ t, l[0]? = some t ∧ smallV t.op = some s) ∧ (∃ t, l[l.length - 2]? = some t ∧ smallV t.op = some k) ∧ k = (l.length : Int) - 3 ∧
  ∀ (i : Nat) (t : Tok), 1 ≤ i → i < l.length - 2 → l[i]? = some t → smallV t.op = none

theorem ManyIs.one {l : List Tok} {k s k' s' : Int} (h : ManyIs l k s) (h' : ManyIs l k' s') : k = k' ∧ s = s' := by
  obtain ⟨h1, h2, ⟨t0, h3, h4⟩, ⟨t1, h5, h6⟩, h7, h8⟩ := h
  obtain ⟨i1, i2, ⟨u0, i3, i4⟩, ⟨u1, i5, i6⟩, i7, i8⟩ := h'
  rw [h3] at i3
  rw [h5] at i5
  cases i3
  cases i5
  rw [h4] at i4
  rw [h6] at i6
  cases i4
  cases i6
  exact ⟨rfl, rfl⟩

/-- A script is one of many. -/
def Many (xs : List Int) (k s : Int) : Prop := ∃ L, Toks xs L xs.length ∧ ManyIs L k s

theorem Many.one {xs : List Int} {k s k' s' : Int} (h : Many xs k s) (h' : Many xs k' s') : k = k' ∧ s = s' := by
  obtain ⟨L, h1, h2⟩ := h
  obtain ⟨M, i1, i2⟩ := h'
  obtain ⟨rfl, _⟩ := h1.one (stuck_end rfl) i1 (stuck_end rfl)
  exact h2.one i2

/-- Its last byte. -/
theorem Many.ends {xs : List Int} {k s : Int} (h : Many xs k s) : 3 ≤ xs.length ∧ xs.getD (xs.length - 1) 0 = 174 := by
  obtain ⟨L, h1, h2, ⟨t, h3, h4⟩, -⟩ := h
  have hle := h1.le
  refine ⟨by omega, ?_⟩
  have hL : L = L.take (L.length - 1) ++ [t] := by
    conv => lhs; rw [← List.take_append_drop (L.length - 1) L]
    congr 1
    rw [List.drop_eq_getElem_cons (by omega), List.drop_of_length_le (by omega)]
    rw [List.getElem?_eq_getElem (by omega), Option.some.injEq] at h3
    rw [h3]
  rw [hL] at h1
  obtain ⟨k', j1, j2, j3, j4⟩ := h1.unsnoc
  have hlt : t.pos < xs.length := by
    rcases Nat.lt_or_ge t.pos xs.length with h' | h'
    · exact h'
    · rw [List.getElem?_eq_none h'] at j2; cases j2
  have hd : xs.drop t.pos = t.op :: xs.drop (t.pos + 1) := by
    rw [drop_get hlt, List.getD_eq_getElem?_getD, j2]
    rfl
  rw [hd, stepT, h4, if_neg (by omega), if_neg (by omega)] at j3
  simp only [Option.some.injEq, Prod.mk.injEq] at j3
  rw [show xs.length - 1 = t.pos by omega, List.getD_eq_getElem?_getD, j2, h4]
  rfl

/-- Its first token. -/
theorem Many.first {xs : List Int} {k s : Int} (h : Many xs k s) {l : List Tok} {t : Tok} {p : Nat} (ht : Toks xs l p) (h0 : l[0]? = some t) : smallV t.op = some s := by
  obtain ⟨L, h1, h2⟩ := h
  obtain ⟨e1, _, ⟨b, e4, e5⟩, -⟩ := h2
  obtain ⟨r, hr⟩ := ht.begins h1 (stuck_end rfl)
  have hl : 0 < l.length := by
    rcases Nat.eq_zero_or_pos l.length with h | h
    · rw [List.getElem?_eq_none (by omega)] at h0; cases h0
    · exact h
  rw [← hr, List.getElem?_append_left hl, h0] at e4
  cases e4
  exact e5

/-- The tokens ahead and behind the first small number behind the first one. -/
theorem Many.at_ {xs : List Int} {k s : Int} (h : Many xs k s) {l : List Tok} {t : Tok} {p : Nat} (ht : Toks xs (l ++ [t]) p) (h0 : 1 ≤ l.length) (hn : ∀ (i : Nat) (u : Tok), 1 ≤ i → l[i]? = some u → smallV u.op = none) (hs : smallV t.op ≠ none) :
    (l.length : Int) - 1 = k ∧ smallV t.op = some k ∧ p + 1 = xs.length ∧ ∃ u, l[0]? = some u ∧ smallV u.op = some s := by
  obtain ⟨L, h1, h2⟩ := h
  obtain ⟨e1, ⟨a, e2, e3⟩, ⟨b, e4, e5⟩, ⟨d, e6, e7⟩, e8, e9⟩ := h2
  obtain ⟨r, hr⟩ := ht.begins h1 (stuck_end rfl)
  have hLl : L.length = l.length + 1 + r.length := by rw [← hr]; simp; omega
  have gl : ∀ i, i < l.length → L[i]? = l[i]? := fun i hi => by
    rw [← hr, List.append_assoc, List.getElem?_append_left hi]
  have gt : L[l.length]? = some t := by
    rw [← hr, List.append_assoc, List.getElem?_append_right (Nat.le_refl _)]
    simp
  have hm : l.length = L.length - 2 := by
    rcases Nat.lt_trichotomy l.length (L.length - 2) with h' | h' | h'
    · exact absurd (e9 _ t h0 h' gt) hs
    · exact h'
    · exfalso
      rcases Nat.lt_or_ge l.length (L.length - 1) with h3 | h3
      · omega
      · have h4 : L.length - 2 < l.length := by omega
        rw [gl _ h4] at e6
        have := hn _ d (by omega) e6
        rw [this] at e7
        cases e7
  rw [← hm, gt] at e6
  cases e6
  refine ⟨by omega, e7, ?_, b, by rw [← gl 0 (by omega)]; exact e4, e5⟩
  have hr1 : r = [a] := by
    match r, (by omega : r.length = 1) with
    | [x], _ =>
      have : L[L.length - 1]? = some x := by
        rw [← hr, List.getElem?_append_right (by simp <;> omega)]
        simp
      rw [this] at e2
      cases e2
      rfl
  rw [← hr, hr1] at h1
  obtain ⟨k', j1, j2, j3, j4⟩ := h1.unsnoc
  have hp := ht.place j1
  have hlt : a.pos < xs.length := by
    rcases Nat.lt_or_ge a.pos xs.length with h' | h'
    · exact h'
    · rw [List.getElem?_eq_none h'] at j2; cases j2
  have hd : xs.drop a.pos = a.op :: xs.drop (a.pos + 1) := by
    rw [drop_get hlt, List.getD_eq_getElem?_getD, j2]
    rfl
  rw [hd, stepT, e3, if_neg (by omega), if_neg (by omega)] at j3
  simp only [Option.some.injEq, Prod.mk.injEq] at j3
  omega

/-- No small number behind the first token: it is not one of many. -/
theorem Many.not {xs : List Int} {k s : Int} (h : Many xs k s) {l : List Tok} {p : Nat} (ht : Toks xs l p) (hst : Stuck xs p) (hn : ∀ (i : Nat) (u : Tok), 1 ≤ i → l[i]? = some u → smallV u.op = none) : False := by
  obtain ⟨L, h1, h2⟩ := h
  obtain ⟨rfl, _⟩ := ht.one hst h1 (stuck_end rfl)
  obtain ⟨e1, ⟨a, e2, e3⟩, ⟨b, e4, e5⟩, ⟨d, e6, e7⟩, e8, e9⟩ := h2
  have := hn _ d (by omega) e6
  rw [this] at e7
  cases e7

/-- It is one of many. -/
theorem many_of {xs : List Int} {l : List Tok} {t u : Tok} {p : Nat} {k s : Int} (ht : Toks xs (l ++ [t]) p) (h0 : l[0]? = some u) (hu : smallV u.op = some s) (hn : ∀ (i : Nat) (v : Tok), 1 ≤ i → l[i]? = some v → smallV v.op = none)
    (hs : smallV t.op = some k) (hk : k = (l.length : Int) - 1) (hp : p + 1 = xs.length) (hx : xs.getD (xs.length - 1) 0 = 174) : Many xs k s := by
  have hl0 : 0 < l.length := by
    rcases Nat.eq_zero_or_pos l.length with h | h
    · rw [List.getElem?_eq_none (by omega)] at h0; cases h0
    · exact h
  have hx' : xs[p]? = some 174 := by
    rw [show xs.length - 1 = p by omega, List.getD_eq_getElem?_getD, List.getElem?_eq_getElem (by omega)] at hx
    rw [List.getElem?_eq_getElem (by omega)]
    exact congrArg some hx
  have hst : stepT (xs.drop p) = some ([], 1) := by
    have hd : xs.drop p = 174 :: xs.drop (p + 1) := by
      rw [drop_get (by omega), List.getD_eq_getElem?_getD, hx']
      rfl
    rw [hd, stepT, if_neg (by omega), if_neg (by omega)]
  refine ⟨_, by have := ht.snoc hx' hst; rw [hp] at this; exact this, ?_⟩
  have hlen : (l ++ [t] ++ [(⟨174, [], p⟩ : Tok)]).length = l.length + 2 := by simp
  refine ⟨by omega, ⟨⟨174, [], p⟩, ?_, rfl⟩, ⟨u, ?_, hu⟩, ⟨t, ?_, hs⟩, by omega, fun i v h1 h2 hv => ?_⟩
  · rw [hlen, List.getElem?_append_right (by simp)]
    simp
  · rw [List.append_assoc, List.getElem?_append_left (by omega)]
    exact h0
  · rw [hlen, List.append_assoc, List.getElem?_append_right (by omega)]
    simp
  · rw [hlen] at h2
    rw [List.append_assoc, List.getElem?_append_left (by omega)] at hv
    exact hn i v h1 hv
end Go.Proofs.Ytbakdoienfmacaa.Tk
