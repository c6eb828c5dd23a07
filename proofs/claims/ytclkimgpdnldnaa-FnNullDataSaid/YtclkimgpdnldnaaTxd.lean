/- Transactions in read-only memory. -/
import Derived.Test.YtclkimgpdnldnaaSx
import Derived.Test.YtclkimgpdnldnaaTytx
import Derived.ChangeSlices
set_option linter.unusedSimpArgs false
set_option linter.unusedVariables false
namespace Go.Proofs.Ytclkimgpdnldnaa.Tx
open Go Go.Se Go.Proofs Go.ChangeShapes Go.Proofs.Ytclkimgpdnldnaa.Tytx

theorem l32 {α : Type} {xs : List α} (h : xs.length = 32) : ∃ e0 e1 e2 e3 e4 e5 e6 e7 e8 e9 e10 e11 e12 e13 e14 e15 e16 e17 e18 e19 e20 e21 e22 e23 e24 e25 e26 e27 e28 e29 e30 e31, xs = [e0, e1, e2, e3, e4, e5, e6, e7, e8, e9, e10, e11, e12, e13, e14, e15, e16, e17, e18, e19, e20, e21, e22, e23, e24, e25, e26, e27, e28, e29, e30, e31] := by
  obtain ⟨e0, z0, rfl, k0⟩ := uncons h
  obtain ⟨e1, z1, rfl, k1⟩ := uncons k0
  obtain ⟨e2, z2, rfl, k2⟩ := uncons k1
  obtain ⟨e3, z3, rfl, k3⟩ := uncons k2
  obtain ⟨e4, z4, rfl, k4⟩ := uncons k3
  obtain ⟨e5, z5, rfl, k5⟩ := uncons k4
  obtain ⟨e6, z6, rfl, k6⟩ := uncons k5
  obtain ⟨e7, z7, rfl, k7⟩ := uncons k6
  obtain ⟨e8, z8, rfl, k8⟩ := uncons k7
  obtain ⟨e9, z9, rfl, k9⟩ := uncons k8
  obtain ⟨e10, z10, rfl, k10⟩ := uncons k9
  obtain ⟨e11, z11, rfl, k11⟩ := uncons k10
  obtain ⟨e12, z12, rfl, k12⟩ := uncons k11
  obtain ⟨e13, z13, rfl, k13⟩ := uncons k12
  obtain ⟨e14, z14, rfl, k14⟩ := uncons k13
  obtain ⟨e15, z15, rfl, k15⟩ := uncons k14
  obtain ⟨e16, z16, rfl, k16⟩ := uncons k15
  obtain ⟨e17, z17, rfl, k17⟩ := uncons k16
  obtain ⟨e18, z18, rfl, k18⟩ := uncons k17
  obtain ⟨e19, z19, rfl, k19⟩ := uncons k18
  obtain ⟨e20, z20, rfl, k20⟩ := uncons k19
  obtain ⟨e21, z21, rfl, k21⟩ := uncons k20
  obtain ⟨e22, z22, rfl, k22⟩ := uncons k21
  obtain ⟨e23, z23, rfl, k23⟩ := uncons k22
  obtain ⟨e24, z24, rfl, k24⟩ := uncons k23
  obtain ⟨e25, z25, rfl, k25⟩ := uncons k24
  obtain ⟨e26, z26, rfl, k26⟩ := uncons k25
  obtain ⟨e27, z27, rfl, k27⟩ := uncons k26
  obtain ⟨e28, z28, rfl, k28⟩ := uncons k27
  obtain ⟨e29, z29, rfl, k29⟩ := uncons k28
  obtain ⟨e30, z30, rfl, k30⟩ := uncons k29
  obtain ⟨e31, z31, rfl, k31⟩ := uncons k30
  obtain rfl := List.eq_nil_of_length_eq_zero k31
  exact ⟨_, _, _, _, _, _, _, _, _, _, _, _, _, _, _, _, _, _, _, _, _, _, _, _, _, _, _, _, _, _, _, _, rfl⟩

/-- Bytes behind a slice's one cell. -/
def BAt (R : RO) (cs : List Value) (xs : List Int) : Prop := ∃ a n c, cs = [.slice a n c] ∧ RI R .u8 a n xs ∧ n ≤ maxLen ∧ n ≤ c

structure GIn where
  hash : List Int
  idx : Int
  script : List Int
  wit : List (List Int)
  seq : Int

structure GOut where
  value : Int
  pk : List Int

structure GTx where
  ver : Int
  ins : List GIn
  outs : List GOut
  lock : Int

def InAt (R : RO) (cs : List Value) (g : GIn) : Prop := ∃ a n c a2 n2 c2, cs = ints .u8 g.hash ++ [.int .u32 g.idx, .slice a n c, .slice a2 n2 c2, .int .u32 g.seq] ∧ g.hash.length = 32 ∧
  (∀ x ∈ g.hash, (Lit.int .u8 x).wf = true) ∧ (Lit.int .u32 g.idx).wf = true ∧ (Lit.int .u32 g.seq).wf = true ∧ RI R .u8 a n g.script ∧ (n ≤ maxLen ∧ n ≤ c) ∧ LAt R 1 BAt a2 n2 c2 g.wit

def OutAt (R : RO) (cs : List Value) (g : GOut) : Prop := ∃ a n c, cs = [.int .i64 g.value, .slice a n c] ∧ (Lit.int .i64 g.value).wf = true ∧ RI R .u8 a n g.pk ∧ n ≤ maxLen ∧ n ≤ c

/-- A transaction's four cells; how the inputs and the outputs lie. -/
def TxL (si so : Nat) (pi : RO → List Value → GIn → Prop) (po : RO → List Value → GOut → Prop) (R : RO) (cs : List Value) (g : GTx) : Prop :=
  ∃ a n c a2 n2 c2, cs = [.int .i32 g.ver, .slice a n c, .slice a2 n2 c2, .int .u32 g.lock] ∧ (Lit.int .i32 g.ver).wf = true ∧ (Lit.int .u32 g.lock).wf = true ∧ LAt R si pi a n c g.ins ∧ LAt R so po a2 n2 c2 g.outs

/-- A transaction as plain data. -/
def TxAt : RO → List Value → GTx → Prop := TxL 36 2 InAt OutAt
/-- A message of a transaction. -/
def MsgAt : RO → List Value → GTx → Prop := TxL 1 1 (PAt 36 InAt) (PAt 2 OutAt)

theorem BAt.le {R R' : RO} (hl : R.le R') (cs : List Value) (x : List Int) (h : BAt R cs x) : BAt R' cs x :=
  let ⟨a, n, c, h1, h2, h3⟩ := h
  ⟨a, n, c, h1, h2.le hl, h3⟩

theorem InAt.le {R R' : RO} (hl : R.le R') (cs : List Value) (x : GIn) (h : InAt R cs x) : InAt R' cs x :=
  let ⟨a, n, c, a2, n2, c2, h1, h2, h3, h4, h5, h6, h7, h8⟩ := h
  ⟨a, n, c, a2, n2, c2, h1, h2, h3, h4, h5, h6.le hl, h7, h8.le hl (BAt.le hl)⟩

theorem OutAt.le {R R' : RO} (hl : R.le R') (cs : List Value) (x : GOut) (h : OutAt R cs x) : OutAt R' cs x :=
  let ⟨a, n, c, h1, h2, h3, h4⟩ := h
  ⟨a, n, c, h1, h2, h3.le hl, h4⟩

theorem TxAt.le {R R' : RO} (hl : R.le R') (cs : List Value) (x : GTx) (h : TxAt R cs x) : TxAt R' cs x :=
  let ⟨a, n, c, a2, n2, c2, h1, h2, h3, h4, h5⟩ := h
  ⟨a, n, c, a2, n2, c2, h1, h2, h3, h4.le hl (InAt.le hl), h5.le hl (OutAt.le hl)⟩

theorem MsgAt.le {R R' : RO} (hl : R.le R') (cs : List Value) (x : GTx) (h : MsgAt R cs x) : MsgAt R' cs x :=
  let ⟨a, n, c, a2, n2, c2, h1, h2, h3, h4, h5⟩ := h
  ⟨a, n, c, a2, n2, c2, h1, h2, h3, h4.le hl (fun _ _ h => h.le hl (InAt.le hl)), h5.le hl (fun _ _ h => h.le hl (OutAt.le hl))⟩

section
variable {H : Type} {enc : TypeId × Value → H} {w : World} {base : Nat} {sp : Nat → Bool} {held : Bool} {fuel : Nat} {cs : List Value} {x : DataW H × List MemPlace}

theorem bytes_of (h : DataW.trod enc Try.prog w base sp held fuel 36 cs = some x) : ∃ xs, BAt (fun b => w.heap[b]?) cs xs := by
  rcases open_ints Try.underlying36 Try.underlying5 (by kernel_rfl) h with ⟨hcs, _⟩ | ⟨a, l, c, zs, hcs, _, hl, hm, hz, _, hcell, hwz⟩
  · exact ⟨[], none, 0, 0, hcs, RI.nil, Nat.zero_le _, Nat.zero_le _⟩
  · refine ⟨zs.take l, some a, l, c, hcs, RI.of_cells hcell hwz ?_, Nat.le_trans hl hm, hl⟩
    rw [hz]; split <;> omega

theorem int_of {k : IntKind} {t : Nat} (ht : Program.underlying Try.prog t = some (.int k)) (h : DataW.trod enc Try.prog w base sp held fuel t cs = some x) : ∃ n, cs = [.int k n] ∧ (Lit.int k n).wf = true := by
  obtain ⟨n, h1, _, h2⟩ := DataW.trod_int ht h
  exact ⟨n, h1, h2⟩

theorem cut {α : Type} (l : List α) (o n : Nat) : l.drop o = (l.drop o).take n ++ l.drop (o + n) := by rw [← List.drop_drop, List.take_append_drop]

/-- An array of whole numbers. -/
theorem ints_of {k : IntKind} {n : Nat} {cs : List Value} (hl : cs.length = n) (h : ∀ i, i < n → ∃ m, (cs.drop i).take 1 = [.int k m] ∧ (Lit.int k m).wf = true) : ∃ xs, cs = ints k xs ∧ xs.length = n ∧ ∀ x ∈ xs, (Lit.int k x).wf = true := by
  obtain ⟨xs, h1, h2⟩ := choose_list (q := fun i y => cs[i]? = some (.int k y) ∧ (Lit.int k y).wf = true) n fun i hi => by
    obtain ⟨m, hm, hw⟩ := h i hi
    refine ⟨m, ?_, hw⟩
    have : ((cs.drop i).take 1)[0]? = some (.int k m) := by rw [hm]; rfl
    rw [List.getElem?_take, if_pos (by decide), List.getElem?_drop] at this
    simpa using this
  refine ⟨xs, ?_, h1, fun x hx => ?_⟩
  · apply List.ext_getElem?
    intro i
    rcases Nat.lt_or_ge i xs.length with hi | hi
    · rw [(h2 i xs[i] (List.getElem?_eq_getElem hi)).1]
      simp [ints, hi]
    · rw [List.getElem?_eq_none (by omega), List.getElem?_eq_none (by rw [ints_len]; omega)]
  · obtain ⟨i, hi, rfl⟩ := List.getElem_of_mem hx
    exact (h2 i xs[i] (List.getElem?_eq_getElem hi)).2

theorem hash_of (h : DataW.trod enc Try.prog w base sp held fuel 60 cs = some x) : ∃ xs, cs = ints .u8 xs ∧ xs.length = 32 ∧ ∀ x ∈ xs, (Lit.int .u8 x).wf = true := by
  obtain ⟨h1, m, h2⟩ := array_of ty60 rfl h
  refine ints_of h1 fun i hi => ?_
  obtain ⟨z, hz⟩ := h2 i hi
  rw [cellsOf_of ty5] at hz
  simp only [show y5.size = 1 from rfl, Nat.mul_one] at hz
  exact int_of Try.underlying5 hz

theorem outPoint_of (h : DataW.trod enc Try.prog w base sp held fuel 86 cs = some x) : ∃ hash idx, cs = ints .u8 hash ++ [.int .u32 idx] ∧ hash.length = 32 ∧ (∀ x ∈ hash, (Lit.int .u8 x).wf = true) ∧ (Lit.int .u32 idx).wf = true := by
  obtain ⟨h1, m, h2⟩ := struct_of ty86 rfl h
  obtain ⟨z1, e1⟩ := h2 (0, 60) (by simp)
  obtain ⟨z2, e2⟩ := h2 (32, 30) (by simp)
  rw [cellsOf_of ty60] at e1
  rw [cellsOf_of ty30] at e2
  obtain ⟨hash, c1, c2, c3⟩ := hash_of e1
  obtain ⟨idx, c4, c5⟩ := int_of Try.underlying30 e2
  refine ⟨hash, idx, ?_, c2, c3, c5⟩
  have h3 : cs = cs.drop 0 := by simp
  have h1 : cs.length = 33 := h1
  rw [h3, cut cs 0 32, cut cs 32 1, List.drop_of_length_le (by omega : cs.length ≤ 32 + 1), List.append_nil]
  exact congr (congrArg _ c1) c4

theorem in_of (h : DataW.trod enc Try.prog w base sp held fuel 89 cs = some x) : ∃ g, InAt (fun b => w.heap[b]?) cs g := by
  obtain ⟨h1, m, h2⟩ := struct_of ty89 rfl h
  obtain ⟨z1, e1⟩ := h2 (0, 86) (by simp)
  obtain ⟨z2, e2⟩ := h2 (33, 36) (by simp)
  obtain ⟨z3, e3⟩ := h2 (34, 87) (by simp)
  obtain ⟨z4, e4⟩ := h2 (35, 30) (by simp)
  rw [cellsOf_of ty86] at e1
  rw [cellsOf_of ty36] at e2
  rw [cellsOf_of ty87] at e3
  rw [cellsOf_of ty30] at e4
  obtain ⟨hash, idx, c1, c2, c3, c4⟩ := outPoint_of e1
  obtain ⟨script, a, n, c, c5, c6, c7⟩ := bytes_of e2
  obtain ⟨a2, n2, c2', wit, c8, c9⟩ := LAt.of_trod Try.underlying87 e3 (p := BAt) (fun _ _ _ hx _ => bytes_of hx)
  obtain ⟨sq, c10, c11⟩ := int_of Try.underlying30 e4
  refine ⟨⟨hash, idx, script, wit, sq⟩, a, n, c, a2, n2, c2', ?_, c2, c3, c4, c11, c6, c7, ?_⟩
  · have h3 : cs = cs.drop 0 := by simp
    have h1 : cs.length = 36 := h1
    rw [h3, cut cs 0 33, cut cs 33 1, cut cs 34 1, cut cs 35 1, List.drop_of_length_le (by omega : cs.length ≤ 35 + 1), List.append_nil]
    have d1 : (cs.drop 0).take 33 = _ := c1
    have d2 : (cs.drop 33).take 1 = _ := c5
    have d3 : (cs.drop 34).take 1 = _ := c8
    have d4 : (cs.drop 35).take 1 = _ := c10
    rw [d1, d2, d3, d4]
    simp
  · rw [cellsOf_of ty36] at c9
    exact c9

theorem out_of (h : DataW.trod enc Try.prog w base sp held fuel 91 cs = some x) : ∃ g, OutAt (fun b => w.heap[b]?) cs g := by
  obtain ⟨h1, m, h2⟩ := struct_of ty91 rfl h
  obtain ⟨z1, e1⟩ := h2 (0, 2) (by simp)
  obtain ⟨z2, e2⟩ := h2 (1, 36) (by simp)
  rw [cellsOf_of ty2] at e1
  rw [cellsOf_of ty36] at e2
  obtain ⟨v, c1, c2⟩ := int_of Try.underlying2 e1
  obtain ⟨pk, a, n, c, c5, c6, c7⟩ := bytes_of e2
  refine ⟨⟨v, pk⟩, a, n, c, ?_, c2, c6, c7⟩
  have h3 : cs = cs.drop 0 := by simp
  have h1 : cs.length = 2 := h1
  rw [h3, cut cs 0 1, cut cs 1 1, List.drop_of_length_le (by omega : cs.length ≤ 1 + 1), List.append_nil]
  exact congr (congrArg _ c1) c5

theorem tx_of (h : DataW.trod enc Try.prog w base sp held fuel 32 cs = some x) : ∃ g, TxAt (fun b => w.heap[b]?) cs g := by
  obtain ⟨h1, m, h2⟩ := struct_of ty32 rfl h
  obtain ⟨z1, e1⟩ := h2 (0, 21) (by simp)
  obtain ⟨z2, e2⟩ := h2 (1, 28) (by simp)
  obtain ⟨z3, e3⟩ := h2 (2, 29) (by simp)
  obtain ⟨z4, e4⟩ := h2 (3, 30) (by simp)
  rw [cellsOf_of ty21] at e1
  rw [cellsOf_of ty28] at e2
  rw [cellsOf_of ty29] at e3
  rw [cellsOf_of ty30] at e4
  obtain ⟨ver, c1, c2⟩ := int_of Try.underlying21 e1
  obtain ⟨a, n, c, ins, c3, c4⟩ := LAt.of_trod Try.underlying28 e2 (p := InAt) (fun _ _ _ hx _ => in_of hx)
  obtain ⟨a2, n2, c2', outs, c5, c6⟩ := LAt.of_trod Try.underlying29 e3 (p := OutAt) (fun _ _ _ hx _ => out_of hx)
  obtain ⟨lock, c7, c8⟩ := int_of Try.underlying30 e4
  rw [cellsOf_of ty89] at c4
  rw [cellsOf_of ty91] at c6
  refine ⟨⟨ver, ins, outs, lock⟩, a, n, c, a2, n2, c2', ?_, c2, c8, c4, c6⟩
  have h3 : cs = cs.drop 0 := by simp
  have h1 : cs.length = 4 := h1
  rw [h3, cut cs 0 1, cut cs 1 1, cut cs 2 1, cut cs 3 1, List.drop_of_length_le (by omega : cs.length ≤ 3 + 1), List.append_nil]
  have d1 : (cs.drop 0).take 1 = _ := c1
  have d2 : (cs.drop 1).take 1 = _ := c3
  have d3 : (cs.drop 2).take 1 = _ := c5
  have d4 : (cs.drop 3).take 1 = _ := c7
  rw [d1, d2, d3, d4]
  rfl
end
end Go.Proofs.Ytclkimgpdnldnaa.Tx
