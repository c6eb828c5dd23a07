/- The evaluator: lists whose elements are built by the call: rows of pointers and of slices; pointers into read-only memory. -/
import Derived.Test.YtepfbdfbfimefaaDoorSw
set_option linter.unusedSimpArgs false
set_option linter.unusedVariables false
namespace Go.Se
open Go

theorem uncons {α : Type} {n : Nat} : ∀ {cs : List α}, cs.length = n + 1 → ∃ c r, cs = c :: r ∧ r.length = n
  | c :: r, h => ⟨c, r, rfl, by simpa using h⟩

theorem CellsAt.blk {R : RO} {b T : Nat} {cs : List Value} (h : R b = some (.cells cs.toArray T (0, 0))) : CellsAt R ⟨b, 0, none⟩ cs := fun j v hv => by
  rw [cell_add]
  simp only [rcell, h]
  simpa using hv

/-- A pointer to cells that read as x. -/
def PAt {α : Type} (sz : Nat) (p : RO → List Value → α → Prop) (R : RO) (cs : List Value) (x : α) : Prop :=
  ∃ ad ds, cs = [.pointer (some ad)] ∧ ds.length = sz ∧ CellsAt R ad ds ∧ p R ds x

/-- A slice as one cell, that reads as a list. -/
def SAt {α : Type} (sz : Nat) (p : RO → List Value → α → Prop) (R : RO) (cs : List Value) (xs : List α) : Prop :=
  ∃ a n c, cs = [.slice a n c] ∧ LAt R sz p a n c xs

theorem PAt.le {α : Type} {sz : Nat} {p : RO → List Value → α → Prop} {R R' : RO} {cs : List Value} {x : α} (h : PAt sz p R cs x) (hl : R.le R') (hp : ∀ cs x, p R cs x → p R' cs x) : PAt sz p R' cs x :=
  let ⟨ad, ds, h1, h2, h3, h4⟩ := h
  ⟨ad, ds, h1, h2, h3.le hl, hp _ _ h4⟩

theorem SAt.le {α : Type} {sz : Nat} {p : RO → List Value → α → Prop} {R R' : RO} {cs : List Value} {x : List α} (h : SAt sz p R cs x) (hl : R.le R') (hp : ∀ cs x, p R cs x → p R' cs x) : SAt sz p R' cs x :=
  let ⟨a, n, c, h1, h2⟩ := h
  ⟨a, n, c, h1, h2.le hl hp⟩

theorem LAt.nil {α : Type} {R : RO} {sz : Nat} {p : RO → List Value → α → Prop} {a : Option Addr} {c : Nat} : LAt R sz p a 0 c [] := ⟨rfl, Nat.zero_le _, Nat.zero_le _, fun i x hx => by simp at hx⟩

/-- Values of one cell each that read as a list. -/
def Each {α : Type} (p : RO → List Value → α → Prop) (R : RO) (zs : List Value) (xs : List α) : Prop :=
  zs.length = xs.length ∧ ∀ (i : Nat) (x : α), xs[i]? = some x → ∃ v, zs[i]? = some v ∧ p R [v] x

theorem Each.nil {α : Type} {p : RO → List Value → α → Prop} {R : RO} : Each p R [] [] := ⟨rfl, fun i x hx => by simp at hx⟩

theorem Each.le {α : Type} {p : RO → List Value → α → Prop} {R R' : RO} {zs : List Value} {xs : List α} (h : Each p R zs xs) (hp : ∀ cs x, p R cs x → p R' cs x) : Each p R' zs xs :=
  ⟨h.1, fun i x hx => let ⟨v, h1, h2⟩ := h.2 i x hx; ⟨v, h1, hp _ _ h2⟩⟩

theorem Each.app {α : Type} {p : RO → List Value → α → Prop} {R : RO} {zs : List Value} {xs : List α} {v : Value} {y : α} (h : Each p R zs xs) (hy : p R [v] y) : Each p R (zs ++ [v]) (xs ++ [y]) := by
  refine ⟨by simp [h.1], fun i x hx => ?_⟩
  have h1 := h.1
  rw [List.getElem?_append] at hx
  split at hx
  · rename_i hi
    obtain ⟨u, h2, h3⟩ := h.2 i x hx
    exact ⟨u, by rw [List.getElem?_append_left (by omega)]; exact h2, h3⟩
  · rename_i hi
    have hi0 : i = xs.length := by
      rcases Nat.lt_or_ge (i - xs.length) 1 with h' | h'
      · omega
      · rw [List.getElem?_eq_none (by simpa using h')] at hx; cases hx
    subst hi0
    simp at hx
    subst hx
    exact ⟨v, by rw [← h1]; simp, hy⟩

/-- Rows, of which the first is the slice, if it is not nil. -/
def Base1 (rs rest : List Row) (a : Option Addr) (n c e sz : Nat) (zs : List Value) : Prop :=
  (a = none ∧ n = 0 ∧ c = 0 ∧ zs = [] ∧ rs = rest) ∨ rs = ⟨a, n, c, e, sz, zs⟩ :: rest

theorem Base1.nil {rest : List Row} {e sz : Nat} : Base1 rest rest none 0 0 e sz [] := .inl ⟨rfl, rfl, rfl, rfl, rfl⟩
theorem Base1.row {rest : List Row} {a : Option Addr} {n c e sz : Nat} {zs : List Value} : Base1 (⟨a, n, c, e, sz, zs⟩ :: rest) rest a n c e sz zs := .inr rfl

theorem Base1.base {fr : List (Nat × SV)} {R : RO} {hp : List (Nat × HB)} {nx : Nat} {rs rest : List Row} {a : Option Addr} {n c e sz : Nat} {zs : List Value} (h : Base1 rs rest a n c e sz zs) : BaseK ⟨fr, R, hp, nx, rs⟩ e sz (.v (.slice a n c)) n zs hp rest := by
  rcases h with ⟨rfl, rfl, rfl, rfl, rfl⟩ | rfl
  · exact .nil
  · exact .row 0 ⟨a, n, c, e, sz, zs⟩ rfl rfl rfl

theorem PubRow.cap_ {R : RO} {r : Row} (h : PubRow R r) (hz : r.sz ≠ 4096) (hs : r.n ≠ 0 → r.a.isSome = true) : r.n ≤ r.cap := by
  rcases Nat.eq_zero_or_pos r.n with h0 | h0
  · omega
  · obtain ⟨ad, ha⟩ := Option.isSome_iff_exists.1 (hs (by omega))
    obtain ⟨_, _, _, h3, _⟩ := h hz ad ha
    exact h3

theorem PubRow.lat {α : Type} {p : RO → List Value → α → Prop} {R : RO} {r : Row} {xs : List α} (h : PubRow R r) (hn : r.n = xs.length) (hs : r.n ≠ 0 → r.a.isSome = true) (h1 : r.sz = 1) (he : Each p R r.xs xs) (hm : r.n ≤ maxLen) : LAt R 1 p r.a r.n r.cap xs := by
  refine ⟨hn, ?_, hm, fun i x hx => ?_⟩
  · rcases Nat.eq_zero_or_pos r.n with h0 | h0
    · omega
    · obtain ⟨ad, ha⟩ := Option.isSome_iff_exists.1 (hs (by omega))
      obtain ⟨_, _, _, h3, _⟩ := h (by omega) ad ha
      exact h3
  · have hi : i < xs.length := by
      rcases Nat.lt_or_ge i xs.length with h' | h'
      · exact h'
      · rw [List.getElem?_eq_none h'] at hx; cases hx
    obtain ⟨ad, ha⟩ := Option.isSome_iff_exists.1 (hs (by omega))
    obtain ⟨e1, cur, ⟨fz, e2⟩, e3, e4, e5⟩ := h (by omega) ad ha
    obtain ⟨v, hv, hp⟩ := he.2 i x hx
    refine ⟨ad, [v], ha, rfl, fun j u hu => ?_, hp⟩
    cases j with
    | succ j => simp at hu
    | zero =>
      simp at hu
      subst hu
      rw [e1, cell_add, cell_add]
      simp only [rcell, e2]
      rw [← e5, h1, Nat.mul_one, List.getElem?_take, if_pos (by omega)] at hv
      simpa using hv

theorem PubR.rest {rs rest : List Row} {a : Option Addr} {n c e sz : Nat} {zs : List Value} {R : RO} (h : Base1 rs rest a n c e sz zs) (hp : PubR rs R) : PubR rest R := by
  rcases h with ⟨_, _, _, _, rfl⟩ | rfl
  · exact hp
  · exact fun r hr => hp r (List.mem_cons_of_mem _ hr)

/-- What was built reads as the list. -/
theorem Base1.lat {α : Type} {p : RO → List Value → α → Prop} {rs rest : List Row} {a : Option Addr} {n c e : Nat} {zs : List Value} {xs : List α} {R : RO} (h : Base1 rs rest a n c e 1 zs) (hp : PubR rs R) (hn : n = xs.length)
    (hs : n ≠ 0 → a.isSome = true) (he : Each p R zs xs) (hm : n ≤ maxLen) : LAt R 1 p a n c xs := by
  rcases h with ⟨rfl, rfl, rfl, rfl, rfl⟩ | rfl
  · have : xs = [] := List.eq_nil_of_length_eq_zero hn.symm
    subst this
    exact .nil
  · exact (hp _ (List.mem_cons_self ..)).lat (xs := xs) hn hs rfl he hm

section
variable {bin : BinOp → IntKind → Int → Int → Int} {cmp : BinOp → Int → Int → Bool} {cnv : IntKind → Int → Int} {neg : IntKind → Int → Int} {com : IntKind → Int → Int} {bnot : Bool → Bool} {beq : Bool → Bool → Bool} {ofN : Nat → Int} {toN : Int → Nat} {at_ : Nat → Nat → Nat → Nat} {sub_ : Nat → Nat → Nat} {scmp : BinOp → ByteArray → ByteArray → Bool} {cat : ByteArray → ByteArray → ByteArray} {sget : ByteArray → Int → Int} {ssz : ByteArray → Nat} {ssub : ByteArray → Nat → Nat → ByteArray} {elem : Option Addr → Int → Nat → Addr} {fld_ : Addr → Nat → Addr}
  (hA : (⟨bin, cmp, cnv, neg, com, bnot, beq, ofN, toN, at_, sub_, scmp, cat, sget, ssz, ssub, elem, fld_⟩ : Ar) = Ar.real)
include hA

/-- One cell behind a pointer is read. -/
theorem ld_at {R : RO} {rs : List Row} {ad : Addr} {cs : List Value} (h : CellsAt R ad cs) (o : Nat) {v : Value} (hv : cs[o]? = some v) {K : Value → Prop} (hk : K v) : LoadP R rs (fld_ ad o) false 1 K := by
  refine ⟨v, .inl ?_, hk⟩
  rw [fld__is hA]
  exact h o v hv

/-- A stretch of cells behind a pointer is read, as one value. -/
theorem ld_at_part {R : RO} {rs : List Row} {ad : Addr} {cs : List Value} (h : CellsAt R ad cs) (o m : Nat) (hm : o + m ≤ cs.length) {K : Value → Prop} (hk : K (.agg ((cs.drop o).take m).toArray)) : LoadP R rs (fld_ ad o) true m K := by
  refine ⟨_, ⟨_, rfl, by simp; omega, fun k v hv => .inl ?_⟩, hk⟩
  rw [fld__is hA]
  exact h.part o m k v hv
end

/-- The first cell behind a pointer. -/
theorem ld_at0 {R : RO} {rs : List Row} {ad : Addr} {cs : List Value} (h : CellsAt R ad cs) {v : Value} (hv : cs[0]? = some v) {K : Value → Prop} (hk : K v) : LoadP R rs ad false 1 K := by
  refine ⟨v, .inl ?_, hk⟩
  have := h 0 v hv
  simpa [Addr.add] using this

/-- All that lies behind a pointer is read, as one value. -/
theorem ld_all {R : RO} {rs : List Row} {ad : Addr} {cs : List Value} {n : Nat} (h : CellsAt R ad cs) (hn : cs.length = n) {K : Value → Prop} (hk : K (.agg cs.toArray)) : LoadP R rs ad true n K :=
  ⟨_, ⟨cs, rfl, hn, fun k v hv => .inl (h k v hv)⟩, hk⟩
end Go.Se
