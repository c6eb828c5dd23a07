/- The evaluator: rows of whole numbers in read-only memory. -/
import Derived.Test.YtepfbdfbfimefaaDoorSm
set_option linter.unusedSimpArgs false
set_option linter.unusedVariables false
set_option linter.unusedSectionVars false
namespace Go.Se
open Go

/-- The slice '.slice a n _' of whole numbers of kind k reads as xs. -/
structure RI (R : RO) (k : IntKind) (a : Option Addr) (n : Nat) (xs : List Int) : Prop where
  len : n = xs.length
  at_ : ∀ i : Int, 0 ≤ i → i < n → a.isSome = true ∧ rcell R (Ar.real.elem a i 1) = some (.int k (xs.getD i.toNat 0))
  wf : ∀ x ∈ xs, (Lit.int k x).wf = true

theorem rcell_le {R R' : RO} (h : R.le R') {a : Addr} {v : Value} (hc : rcell R a = some v) : rcell R' a = some v := by
  unfold rcell at hc ⊢
  cases hR : R a.block with
  | none => rw [hR] at hc; cases hc
  | some o => rw [h _ _ hR, ← hR]; exact hc

theorem RI.le {R R' : RO} {k : IntKind} {a : Option Addr} {n : Nat} {xs : List Int} (h : RI R k a n xs) (hl : R.le R') : RI R' k a n xs :=
  ⟨h.len, fun i h0 h1 => ⟨(h.at_ i h0 h1).1, rcell_le hl (h.at_ i h0 h1).2⟩, h.wf⟩

theorem RI.nil {R : RO} {k : IntKind} : RI R k none 0 [] := ⟨rfl, fun i h0 h1 => absurd h1 (by omega), fun x hx => by cases hx⟩

/-- Out of what the row's form tells of a slice. -/
theorem RI.of_cells {w : World} {k : IntKind} {ad : Addr} {zs : List Int} {len : Nat} (hc : ∀ i, i < zs.length → w.cell? (ad.add i) = some (.int k (zs.getD i 0)))
    (hw : ∀ n ∈ zs, (Lit.int k n).wf = true) (hl : len ≤ zs.length) : RI (fun b => w.heap[b]?) k (some ad) len (zs.take len) := by
  refine ⟨by simp; omega, fun i h0 h1 => ⟨rfl, ?_⟩, fun x hx => hw x (List.mem_of_mem_take hx)⟩
  have h := hc i.toNat (by omega)
  have e : Ar.real.elem (some ad) i 1 = ad.add i.toNat := by
    show ad.add (i.toNat * 1) = _
    rw [Nat.mul_one]
  rw [e]
  have e2 : (zs.take len).getD i.toNat 0 = zs.getD i.toNat 0 := by
    rw [List.getD_eq_getElem?_getD, List.getD_eq_getElem?_getD, List.getElem?_take, if_pos (by omega)]
  rw [e2]
  exact h

theorem wf_u8 {x : Int} (h : (Lit.int .u8 x).wf = true) : 0 ≤ x ∧ x ≤ 255 := by
  simp [Lit.wf, IntKind.min, IntKind.max, IntKind.bits, IntKind.signed] at h
  omega

theorem RI.u8 {R : RO} {a : Option Addr} {n : Nat} {xs : List Int} (h : RI R .u8 a n xs) (i : Nat) : 0 ≤ xs.getD i 0 ∧ xs.getD i 0 ≤ 255 := by
  rw [List.getD_eq_getElem?_getD]
  cases hx : xs[i]? with
  | none => simp
  | some x => exact wf_u8 (h.wf x (List.mem_of_getElem? hx))

/-- Whole numbers as values. -/
def ints (k : IntKind) (xs : List Int) : List Value := xs.map (Value.int k)

theorem ints_len (k : IntKind) (xs : List Int) : (ints k xs).length = xs.length := by simp [ints]
theorem ints_app (k : IntKind) (xs ys : List Int) : ints k xs ++ ints k ys = ints k (xs ++ ys) := by simp [ints]
theorem ints_one (k : IntKind) (xs : List Int) : ∀ v ∈ ints k xs, v.oneCell' = true := fun v hv => by
  obtain ⟨x, _, rfl⟩ := List.mem_map.1 hv; rfl
theorem ints_get {k : IntKind} {xs : List Int} {j : Nat} (h : j < xs.length) : (ints k xs)[j]? = some (.int k (xs.getD j 0)) := by
  simp [ints, List.getD_eq_getElem?_getD, h]

/-- A row of the call's own, told as read-only memory, reads as its numbers. -/
theorem PubRow.ri {R : RO} {k : IntKind} {r : Row} {xs : List Int} (h : PubRow R r) (hn : r.n = xs.length) (hs : r.n ≠ 0 → r.a.isSome = true) (h1 : r.sz = 1) (hx : r.xs = ints k xs) (hw : ∀ x ∈ xs, (Lit.int k x).wf = true) : RI R k r.a r.n xs := by
  refine ⟨hn, fun i h0 h2 => ?_, hw⟩
  have hso := hs (by omega)
  obtain ⟨ad, ha⟩ := Option.isSome_iff_exists.1 hso
  refine ⟨hso, ?_⟩
  obtain ⟨e1, cur, ⟨fz, e2⟩, e3, e4, e5⟩ := h (by omega) ad ha
  rw [ha]
  have e : Ar.real.elem (some ad) i 1 = ad.add i.toNat := by
    show ad.add (i.toNat * 1) = _
    rw [Nat.mul_one]
  rw [e, e1, cell_add]
  simp only [rcell, e2]
  have hlt : i.toNat < xs.length := by omega
  have := ints_get (k := k) hlt
  rw [← hx, ← e5, h1, Nat.mul_one, List.getElem?_take, if_pos (by omega)] at this
  simpa using this

/-- What is appended: a slice of whole numbers. -/
theorem RI.src {s : St} {k : IntKind} {a : Option Addr} {n c : Nat} {xs : List Int} (h : RI s.R k a n xs) : SrcK s 1 (.v (.slice a n c)) n (ints k xs) := by
  cases ha : a with
  | none =>
    have hn : n = 0 := by
      rcases Nat.eq_zero_or_pos n with h0 | h0
      · exact h0
      · have := (h.at_ 0 (by omega) (by omega)).1; rw [ha] at this; cases this
    have hl := h.len
    subst hn
    have : xs = [] := List.eq_nil_of_length_eq_zero hl.symm
    subst this
    exact .nil c
  | some ad =>
    refine .raw ad n c _ (by rw [ints_len, h.len, Nat.mul_one]) (fun j v hv => .inl ?_) (ints_one k xs)
    have hj : j < xs.length := by
      rcases Nat.lt_or_ge j xs.length with h' | h'
      · exact h'
      · rw [List.getElem?_eq_none (by rw [ints_len]; exact h')] at hv; cases hv
    have hl := h.len
    have h2 := (h.at_ j (by omega) (by omega)).2
    rw [ints_get hj] at hv
    simp only [Option.some.injEq] at hv
    subst hv
    rw [ha] at h2
    have e : Ar.real.elem (some ad) (j : Int) 1 = ad.add j := by
      show ad.add ((j : Int).toNat * 1) = _
      rw [Nat.mul_one]; rfl
    rw [e] at h2
    exact h2

section
variable {bin : BinOp → IntKind → Int → Int → Int} {cmp : BinOp → Int → Int → Bool} {cnv : IntKind → Int → Int} {neg : IntKind → Int → Int} {com : IntKind → Int → Int} {bnot : Bool → Bool} {beq : Bool → Bool → Bool} {ofN : Nat → Int} {toN : Int → Nat} {at_ : Nat → Nat → Nat → Nat} {sub_ : Nat → Nat → Nat} {scmp : BinOp → ByteArray → ByteArray → Bool} {cat : ByteArray → ByteArray → ByteArray} {sget : ByteArray → Int → Int} {ssz : ByteArray → Nat} {ssub : ByteArray → Nat → Nat → ByteArray} {elem : Option Addr → Int → Nat → Addr} {fld_ : Addr → Nat → Addr}
  (hA : (⟨bin, cmp, cnv, neg, com, bnot, beq, ofN, toN, at_, sub_, scmp, cat, sget, ssz, ssub, elem, fld_⟩ : Ar) = Ar.real)
include hA

/-- A byte of a slice is read. -/
theorem ld_u8 {R : RO} {rs : List Row} {a : Option Addr} {n : Nat} {xs : List Int} (h : RI R .u8 a n xs) {i : Int} (h0 : 0 ≤ i) (h1 : i < n) {K : Value → Prop}
    (hk : ∀ c : Int, c = xs.getD i.toNat 0 → 0 ≤ c → c ≤ 255 → K (.int .u8 c)) : LoadP R rs (elem a i 1) false 1 K := by
  refine ⟨_, ?_, hk _ rfl (h.u8 _).1 (h.u8 _).2⟩
  refine .inl ?_
  rw [elem_is hA]
  exact (h.at_ i h0 h1).2
/-- A number of a slice is read. -/
theorem ld_ri {R : RO} {rs : List Row} {k : IntKind} {a : Option Addr} {n : Nat} {xs : List Int} (h : RI R k a n xs) {i : Int} (h0 : 0 ≤ i) (h1 : i < n) {K : Value → Prop}
    (hk : ∀ c : Int, c = xs.getD i.toNat 0 → (Lit.int k c).wf = true → K (.int k c)) : LoadP R rs (elem a i 1) false 1 K := by
  have hl := h.len
  have hi : i.toNat < xs.length := by omega
  refine ⟨_, ?_, hk _ rfl (h.wf _ ?_)⟩
  · refine .inl ?_
    rw [elem_is hA]
    exact (h.at_ i h0 h1).2
  · rw [List.getD_eq_getElem?_getD, List.getElem?_eq_getElem hi]
    exact List.getElem_mem hi
/-- A cell of a row of the call's own is read. -/
theorem ld_row {R : RO} {rs : List Row} (m : Nat) {r : Row} (hr : rs[m]? = some r) {a : Option Addr} (ha : r.a = a) {i : Int} {v : Value} (hs : a.isSome = true) (h : r.xs[i.toNat]? = some v) {K : Value → Prop}
    (hk : K v) : LoadP R rs (elem a i 1) false 1 K := by
  obtain ⟨ad, rfl⟩ := Option.isSome_iff_exists.1 hs
  refine ⟨_, .inr ⟨r, List.mem_of_getElem? hr, ad, i.toNat, ha, ?_, h⟩, hk⟩
  rw [elem_is hA]
  show ad.add (i.toNat * 1) = _
  rw [Nat.mul_one]
/-- An index and the byte there. -/
theorem ix_u8 {R : RO} {a : Option Addr} {n : Nat} {xs : List Int} (h : RI R .u8 a n xs) {i : Int} (j : Nat) (hj : i = j) (h1 : j < n) {q : Prop} (hq : q) : Idx i (ofN n) a q :=
  ⟨by omega, by rw [ofN_ hA]; omega, (h.at_ i (by omega) (by omega)).1, hq⟩
end
end Go.Se
