/- An evaluator of the model's code at symbolic values (the definitions). -/
import Derived.WalkKit
import Derived.Maps.AppendAt
import Derived.Deep.AppendSrc
import Derived.Defers
import Derived.Lib.FrozenHead
namespace Go.Se
open Go

/-- Arithmetic, kept folded while a text is evaluated. -/
structure Ar where
  bin : BinOp → IntKind → Int → Int → Int
  cmp : BinOp → Int → Int → Bool
  conv : IntKind → Int → Int
  neg : IntKind → Int → Int
  com : IntKind → Int → Int
  not : Bool → Bool
  beq : Bool → Bool → Bool
  ofNat : Nat → Int
  toNat : Int → Nat
  at_ : Nat → Nat → Nat → Nat          -- off + i * size
  sub : Nat → Nat → Nat
  scmp : BinOp → ByteArray → ByteArray → Bool
  cat : ByteArray → ByteArray → ByteArray
  sget : ByteArray → Int → Int
  ssize : ByteArray → Nat
  ssub : ByteArray → Nat → Nat → ByteArray
  elem : Option Addr → Int → Nat → Addr       -- element n of a row
  fld : Addr → Nat → Addr              -- a field's place

/-- Kinds of types. -/
inductive TyD where
  | int (k : IntKind)
  | bool | str | ptr | ifc
  | slc (elem : Nat)
  | stc (fs : List (Nat × Nat))        -- each field: its offset, its type
  | arr (n : Nat) (elem : Nat)
  | other

structure Ty where
  d : TyD
  size : Nat
  agg : Bool
  zero : Value
  bytes : Nat

/-- A value of the evaluator: one of the model's, or one in which labels stand for blocks of the call's own. -/
inductive SV where
  | v (x : Value)
  | p (l o : Nat)
  | se (l o len cap : Nat)
  | ag (xs : List SV)
  | tu (xs : List SV)
  | ifc (t : Nat) (x : SV)
  | fn (f : Fn) (xs ys : List SV)

mutual
def val (ρ : Nat → Nat) : SV → Value
  | .v x => x
  | .p l o => .pointer (some ⟨ρ l, o, none⟩)
  | .se l o len cap => .slice (some ⟨ρ l, o, none⟩) len cap
  | .ag xs => .agg (valL ρ xs).toArray
  | .tu xs => .tuple (valL ρ xs).toArray
  | .ifc t x => .iface t (val ρ x)
  | .fn f xs ys => .func f (valL ρ xs).toArray (valL ρ ys).toArray
def valL (ρ : Nat → Nat) : List SV → List Value
  | [] => []
  | x :: xs => val ρ x :: valL ρ xs
end

abbrev RO := Nat → Option Obj

structure HB where
  ty : Nat
  cs : List SV

/-- A slice of the call's own, and what it holds. -/
structure Row where
  a : Option Addr
  n : Nat
  cap : Nat
  e : Nat
  sz : Nat
  xs : List Value

def Row.v (r : Row) : Value := .slice r.a r.n r.cap
def Row.blk (r : Row) : Option Nat := r.v.ownBlock

structure St where
  fr : List (Nat × SV)
  R : RO
  hp : List (Nat × HB)
  nx : Nat
  rw_ : List Row

def find {α : Type} : List (Nat × α) → Nat → Option α
  | [], _ => none
  | (k, a) :: r, t => bif Nat.beq k t then some a else find r t

structure Cx where
  P : Program
  A : Ar
  ty : Nat → Option Ty
  n : Nat
  fz : List Nat

def St.ev (s : St) : Operand → Option SV
  | .tmp t => find s.fr t
  | .const v => some (.v v)
  | .global g => some (.v (.pointer (some ⟨g, 0, none⟩)))
  | .func f => some (.v (.func (.func f) #[] #[]))

def evs (s : St) : List Operand → Option (List SV)
  | [] => some []
  | x :: xs => match s.ev x, evs s xs with
    | some a, some l => some (a :: l)
    | _, _ => none

/-- A slot's new value. -/
def St.put (s : St) (C : Cx) (dst : Option Tmp) (a : SV) (K : St → Prop) : Prop :=
  match dst with
  | none => K s
  | some d => (bif Nat.blt d C.n then (fun _ : Unit => K { s with fr := (d, a) :: s.fr }) else fun _ => False) ()

/-- What is owed, and the rest. -/
structure Chk (p : Unit → Prop) (q : Prop) : Prop where
  ob : p ()
  rest : q

/-- An index is within a slice. -/
structure Idx (i len : Int) (a : Option Addr) (q : Prop) : Prop where
  lo : 0 ≤ i
  hi : i < len
  so : a.isSome = true
  rest : q

/-- A stop: an operation that the evaluator does not know. -/
structure Stuck (why : String) (s : St) (o : Oper) : Prop where
  no : False

/-- An aggregate of these cells. -/
def rawL : List SV → Option (List Value)
  | [] => some []
  | .v x :: xs => match rawL xs with
    | some l => some (x :: l)
    | none => none
  | _ :: _ => none

mutual
/-- All labels of a value are below n. -/
def lab (n : Nat) : SV → Prop
  | .v _ => True
  | .p l _ => l < n
  | .se l _ _ _ => l < n
  | .ag xs => labL n xs
  | .tu xs => labL n xs
  | .ifc _ x => lab n x
  | .fn _ xs ys => labL n xs ∧ labL n ys
def labL (n : Nat) : List SV → Prop
  | [] => True
  | x :: xs => lab n x ∧ labL n xs
end

/-- No cell of so many is frozen. -/
def UnF (n : Nat) (fz : Nat × Nat) : Prop := ∀ j, j < n → ¬ (fz.1 ≤ j ∧ j < fz.2)

theorem un0 (n : Nat) : UnF n (0, 0) := fun j _ h => absurd h.2 (Nat.not_lt_zero j)

/-- A slice that a call owns: no cell of its row is frozen. -/
def _root_.Go.World.ownsRowG (w : World) (base : Nat) (e : TypeId) (size : Nat) (v : Value) (n : Nat) (xs : List Value) : Prop :=
  xs.length = n * size ∧
  ((v = .slice none 0 0 ∧ n = 0) ∨
   ∃ g cap cur, v = .slice (some ⟨g, 0, none⟩) n cap ∧ base ≤ g ∧ (∃ fz, w.heap[g]? = some (.cells cur e fz) ∧ UnF cur.size fz) ∧ n ≤ cap ∧ cap ≤ maxLen ∧ cur.size = cap * size ∧ cur.toList.take (n * size) = xs)

section
variable {w : World} {base : Nat} {e : TypeId} {size : Nat} {v : Value} {n : Nat} {xs : List Value}

theorem _root_.Go.World.ownsRowG_nil (w : World) (base : Nat) (e : TypeId) (size : Nat) : w.ownsRowG base e size (.slice none 0 0) 0 [] := ⟨by simp, .inl ⟨rfl, rfl⟩⟩

theorem _root_.Go.World.ownsRowG.lt (h : w.ownsRowG base e size v n xs) : ∀ k, v.ownBlock = some k → base ≤ k ∧ k < w.heap.size := by
  intro k hk
  rcases h.2 with ⟨rfl, _⟩ | ⟨g, cap, cur, rfl, hb, ⟨fz, hg, _⟩, _⟩
  · simp [Value.ownBlock] at hk
  · simp [Value.ownBlock] at hk
    subst hk
    exact ⟨hb, (Array.getElem?_eq_some_iff.1 hg).1⟩

theorem _root_.Go.World.ownsRowG.kept {w' : World} {row : Option Nat} (h : w.ownsRowG base e size v n xs) (hg : w.grownBy w' row) (hne : v.ownBlock = none ∨ v.ownBlock ≠ row) : w'.ownsRowG base e size v n xs := by
  refine ⟨h.1, ?_⟩
  rcases h.2 with hn | ⟨g, cap, cur, rfl, hb, ⟨fz, hgg, hu⟩, rest⟩
  · exact .inl hn
  · refine .inr ⟨g, cap, cur, rfl, hb, ⟨fz, ?_, hu⟩, rest⟩
    have hlt : g < w.heap.size := (Array.getElem?_eq_some_iff.1 hgg).1
    rw [hg.block g hlt (by
      rcases hne with h | h
      · simp [Value.ownBlock] at h
      · simpa [Value.ownBlock] using h)]
    exact hgg

theorem _root_.Go.World.ownsRowG.alloc (h : w.ownsRowG base e size v n xs) (o : Obj) : (w.alloc o).ownsRowG base e size v n xs :=
  h.kept (World.grownBy_alloc w o none) (by cases hv : v.ownBlock <;> simp)

theorem _root_.Go.World.ownsRowG.cells (h : w.ownsRowG base e size v n xs) {g : Nat} (hg : v.ownBlock = some g) : ∀ j u, xs[j]? = some u → w.cell? ((⟨g, 0, none⟩ : Addr).add j) = some u := by
  intro j u hu
  rcases h.2 with ⟨rfl, _⟩ | ⟨g', cap, cur, rfl, _, ⟨fz, hgg, _⟩, _, _, _, htake⟩
  · simp [Value.ownBlock] at hg
  · simp [Value.ownBlock] at hg
    subst hg
    rw [← htake, List.getElem?_take] at hu
    have ha : ((⟨g', 0, none⟩ : Addr).add j) = ⟨g', j, none⟩ := by
      unfold Addr.add
      split
      · rename_i h; rw [h]
      · simp
    split at hu
    · rw [ha]
      simpa [World.cell?, hgg] using hu
    · cases hu
end

/-- A row whose head is frozen (sz = 4096 says so): of what it holds no more is told than that they are bytes. -/
def Frz (w : World) (r : Row) : Prop := r.sz = 4096 ∧ r.xs = [] ∧ ∃ bs : ByteArray, bs.size = r.n ∧ w.ownsRowF 0 r.e 1 r.v r.n (byteCells bs)

/-- A string as a number. -/
def strCode (b : ByteArray) : Nat := b.data.toList.foldr (fun x n => n * 257 + (x.toNat + 1)) 0

theorem strCode_inj {a b : ByteArray} (h : strCode a = strCode b) : a = b := by
  have key : ∀ l m : List UInt8, l.foldr (fun x n => n * 257 + (x.toNat + 1)) 0 = m.foldr (fun x n => n * 257 + (x.toNat + 1)) 0 → l = m := by
    intro l
    induction l with
    | nil =>
      intro m h
      cases m with
      | nil => rfl
      | cons y m => simp only [List.foldr] at h; omega
    | cons x l ih =>
      intro m h
      cases m with
      | nil => simp only [List.foldr] at h; omega
      | cons y m =>
        simp only [List.foldr] at h
        have h1 := x.toNat_lt
        have h2 := y.toNat_lt
        have h3 : x.toNat = y.toNat := by omega
        have h4 := ih m (by omega)
        rw [h4, UInt8.toNat_inj.1 h3]
  have := key _ _ h
  cases a with
  | mk a => cases b with
    | mk b =>
      congr 1
      exact Array.toList_inj.1 this

/-- A string that is ranged over stands in memory as an object of its own; its row tells the string (e) and the place (n). -/
def Itr (w : World) (r : Row) : Prop := r.sz = 4096 ∧ r.xs = [] ∧ ∃ g s pos, r.a = some ⟨g, 0, none⟩ ∧ r.cap = 0 ∧ r.n = pos + 1 ∧ r.e = strCode s ∧ w.heap[g]? = some (.stringIter s pos)

/-- A row lies in memory. -/
def RowOk (w : World) (r : Row) : Prop := (r.sz ≠ 4096 ∧ w.ownsRowG 0 r.e r.sz r.v r.n r.xs) ∨ Frz w r ∨ Itr w r

theorem RowOk.own {w : World} {r : Row} (h : RowOk w r) (hz : r.sz ≠ 4096) : w.ownsRowG 0 r.e r.sz r.v r.n r.xs := (h.resolve_right fun f => f.elim (fun f => hz f.1) fun f => hz f.1).2

theorem RowOk.kept {w w' : World} {r : Row} {row : Option Nat} (h : RowOk w r) (hg : w.grownBy w' row) (hne : r.v.ownBlock = none ∨ r.v.ownBlock ≠ row) : RowOk w' r := by
  rcases h with ⟨h1, h2⟩ | ⟨h1, h2, bs, h4, h5⟩ | ⟨h1, h2, g, s, pos, h3, h4, h5, h6, h7⟩
  · exact .inl ⟨h1, h2.kept hg hne⟩
  · exact .inr (.inl ⟨h1, h2, bs, h4, h5.kept hg hne⟩)
  · refine .inr (.inr ⟨h1, h2, g, s, pos, h3, h4, h5, h6, ?_⟩)
    have hlt : g < w.heap.size := (Array.getElem?_eq_some_iff.1 h7).1
    rw [hg.block g hlt (by
      rcases hne with h | h
      · simp [Row.v, h3, Value.ownBlock] at h
      · simpa [Row.v, h3, Value.ownBlock] using h)]
    exact h7

theorem RowOk.alloc {w : World} {r : Row} (h : RowOk w r) (o : Obj) : RowOk (w.alloc o) r :=
  h.kept (World.grownBy_alloc w o none) (by cases hv : r.v.ownBlock <;> simp)

theorem RowOk.lt {w : World} {r : Row} (h : RowOk w r) : ∀ k, r.v.ownBlock = some k → 0 ≤ k ∧ k < w.heap.size := fun k hk => by
  rcases h with ⟨h1, h2⟩ | ⟨h1, h2, bs, h4, h5⟩ | ⟨h1, h2, g, s, pos, h3, h4, h5, h6, h7⟩
  · exact h2.lt k hk
  · exact h5.lt k hk
  · simp [Row.v, h3, Value.ownBlock] at hk
    subst hk
    exact ⟨Nat.zero_le _, (Array.getElem?_eq_some_iff.1 h7).1⟩

theorem RowOk.cells {w : World} {r : Row} (h : RowOk w r) {g : Nat} (hg : r.v.ownBlock = some g) : ∀ j u, r.xs[j]? = some u → w.cell? ((⟨g, 0, none⟩ : Addr).add j) = some u := fun j u hu => by
  rcases h with ⟨h1, h2⟩ | ⟨h1, h2, _⟩ | ⟨h1, h2, _⟩
  · exact h2.cells hg j u hu
  · rw [h2] at hu; simp at hu
  · rw [h2] at hu; simp at hu

/-- The blocks of the call's own lie in memory as the state says; read-only memory is as it is told. -/
structure HRel (R : RO) (hp : List (Nat × HB)) (nx : Nat) (rs : List Row) (ρ : Nat → Nat) (w : World) : Prop where
  blk : ∀ l b, find hp l = some b → w.heap[ρ l]? = some (.cells (valL ρ b.cs).toArray b.ty (0, 0))
  inj : ∀ l l', l < nx → l' < nx → ρ l = ρ l' → l = l'
  lt : ∀ l, l < nx → ρ l < w.heap.size
  ro : ∀ b o, R b = some o → w.heap[b]? = some o
  dis : ∀ l b, find hp l = some b → R (ρ l) = none
  wf : ∀ l b, find hp l = some b → l < nx ∧ labL nx b.cs
  row : ∀ r ∈ rs, RowOk w r
  rdis : ∀ r ∈ rs, ∀ g, r.blk = some g → R g = none ∧ ∀ l b, find hp l = some b → ρ l ≠ g
  rpair : rs.Pairwise fun r r' => ∀ g, r.blk = some g → r'.blk ≠ some g

/-- Blocks that a call has been handed as its own. -/
def Own (ρ : Nat → Nat) (nx : Nat) (rs : List Row) (b : Nat) : Prop := (∃ l, l < nx ∧ b = ρ l) ∨ ∃ r ∈ rs, r.blk = some b

/-- Nothing that lay in w has turned, but for blocks in S. -/
structure Keep (S : Nat → Prop) (w w' : World) : Prop where
  os : w'.os = w.os
  tape : w'.tape = w.tape
  output : w'.output = w.output
  size : w.heap.size ≤ w'.heap.size
  block : ∀ k, k < w.heap.size → ¬ S k → w'.heap[k]? = w.heap[k]?

/-- More is known of read-only memory. -/
def RO.le (R R' : RO) : Prop := ∀ b o, R b = some o → R' b = some o

/-- What is newly known lies in new blocks, or in such as were handed on. -/
def RO.fresh (w : World) (S : Nat → Prop) (R R' : RO) : Prop := ∀ b o, R' b = some o → R b = some o ∨ w.heap.size ≤ b ∨ S b

/-- A stop: a call of function f. The blocks of the call's own may be handed on, and come back turned. -/
structure CallP (P : Program) (f : Nat) (args : List SV) (R : RO) (hp : List (Nat × HB)) (nx : Nat) (rs : List Row) (K : RO → List (Nat × HB) → Nat → List Row → SV → Prop) : Prop where
  fn : ∃ g, P.funcs[f]? = some g ∧ g.name ≠ "runtime.NumGoroutine" ∧ g.body.isSome = true
  go : ∀ (ρ : Nat → Nat) (w : World), HRel R hp nx rs ρ w → Calls P f (valL ρ args).toArray w fun e w' =>
    ∃ R' hp' nx' rs' ρ' r, (∀ l, l < nx → ρ' l = ρ l) ∧ nx ≤ nx' ∧ (∀ l, nx ≤ l → l < nx' → w.heap.size ≤ ρ' l) ∧ R.le R' ∧ RO.fresh w (Own ρ nx rs) R R' ∧ HRel R' hp' nx' rs' ρ' w' ∧ Keep (Own ρ nx rs) w w' ∧
      (∀ q ∈ rs', ∀ g, q.blk = some g → w.heap.size ≤ g ∨ Own ρ nx rs g) ∧ e = .returned (val ρ' r) ∧ lab nx' r ∧ K R' hp' nx' rs' r

/-- A stop: a quiet operation that the evaluator does not know; the model is asked. -/
structure RawH (C : Cx) (s : St) (o : Oper) (K : SV → Prop) : Prop where
  go : ∃ r, lab s.nx r ∧ K r ∧ ∀ (ρ : Nat → Nat) (w : World), HRel s.R s.hp s.nx s.rw_ ρ w → ∀ ev : Operand → Value, (∀ x v, s.ev x = some v → ev x = val ρ v) → (execOp ev o).run C.P w = .ok (.value (val ρ r)) w

/-- What an operation hands on. -/
def Ups (P : Program) (next : Value → World → Prop) : Result Next → Prop
  | .ok (.value v) w => next v w
  | .ok .skip w => next undef w
  | .ok (.enter f args) w => Calls P f args w fun e w' => ∃ v, e = .returned v ∧ next v w'
  | _ => False

/-- A stop: an operation that the evaluator does not know; memory may turn. -/
structure GenP (C : Cx) (s : St) (o : Oper) (K : RO → List (Nat × HB) → Nat → List Row → SV → Prop) : Prop where
  go : ∀ (ρ : Nat → Nat) (w : World), HRel s.R s.hp s.nx s.rw_ ρ w → ∀ ev : Operand → Value, (∀ x v, s.ev x = some v → ev x = val ρ v) → Ups C.P (fun u w' =>
    ∃ R' hp' nx' rs' ρ' r, (∀ l, l < s.nx → ρ' l = ρ l) ∧ s.nx ≤ nx' ∧ (∀ l, s.nx ≤ l → l < nx' → w.heap.size ≤ ρ' l) ∧ s.R.le R' ∧ RO.fresh w (Own ρ s.nx s.rw_) s.R R' ∧ HRel R' hp' nx' rs' ρ' w' ∧ Keep (Own ρ s.nx s.rw_) w w' ∧
      (∀ q ∈ rs', ∀ g, q.blk = some g → w.heap.size ≤ g ∨ Own ρ s.nx s.rw_ g) ∧ u = val ρ' r ∧ lab nx' r ∧ K R' hp' nx' rs' r) ((execOp ev o).run C.P w)

/-- A stop: a function value is asked whether it is nil. -/
structure NilP (C : Cx) (s : St) (o : Oper) (v : SV) (q : Prop) : Prop where
  go : ∀ (ρ : Nat → Nat) (w : World) (ev : Operand → Value), (∀ x v, s.ev x = some v → ev x = val ρ v) → (execOp ev o).run C.P w = .ok (.value (val ρ v)) w
  rest : q

/-- A stop: a block of the call's own that is written at places that are reckoned. -/
structure RowA (s : St) (T : Nat) (cs : List SV) (K : List Row → Addr → Prop) : Prop where
  go : ∃ vs, rawL cs = some vs ∧ vs.length ≤ 4611686018427387904 ∧ ∀ a n zs, n = vs.length → zs = vs → K (⟨some a, n, n, T, 1, zs⟩ :: s.rw_) a

/-- A deferred call that turns nothing. -/
def Harm (P : Program) (d : Deferred) : Prop := ∃ fv cap f args, d.target = .fn fv cap ∧ (∀ w, (invoke d.target d.args).run P w = .ok (.enter f args) w) ∧
  ∀ w, CallsD P f args .returning w fun e u w' => (∃ v, e = .returned v) ∧ u = .returning ∧ Keep (fun _ => False) w w'

/-- A stop: a call is deferred; one that turns nothing. -/
structure DeferP (C : Cx) (s : St) (o : Oper) (q : Prop) : Prop where
  go : ∀ (ρ : Nat → Nat) (w : World), HRel s.R s.hp s.nx s.rw_ ρ w → ∀ ev : Operand → Value, (∀ x v, s.ev x = some v → ev x = val ρ v) → ∃ d, (execOp ev o).run C.P w = .ok (.defer d) w ∧ Harm C.P d
  rest : q

/-- Two ways. -/
def br (x : Bool) (p q : Unit → Prop) : Prop := (bif x then p else q) ()

def cellsOf : SV → List SV
  | .ag xs => xs
  | .v (.agg cs) => cs.toList.map .v
  | x => [x]

def mkFn (f : Fn) (xs ys : List SV) : SV := match rawL xs, rawL ys with
  | some a, some b => .v (.func f ⟨a⟩ ⟨b⟩)
  | _, _ => .fn f xs ys

def mkAg (xs : List SV) : SV := match rawL xs with
  | some l => .v (.agg ⟨l⟩)
  | none => .ag xs

def takeAt (cs : List SV) (o : Nat) (t : Ty) : Option SV :=
  if t.agg then
    let l := (cs.drop o).take t.size
    bif Nat.beq l.length t.size then some (mkAg l) else none
  else cs[o]?

def putAt : List SV → Nat → List SV → List SV
  | cs, _, [] => cs
  | cs, o, x :: xs => putAt (cs.set o x) (o + 1) xs

def fillS (place : Nat → Option (Nat × Nat)) (cells : List SV) : List (Nat × SV) → Option (List SV)
  | [] => some cells
  | (i, x) :: rest =>
    match place i with
    | none => none
    | some (off, size) =>
      let c := cellsOf x
      bif Nat.beq c.length size && Nat.ble (off + size) cells.length then fillS place (putAt cells off c) rest else none

def zeroCells (t : Ty) : List SV := cellsOf (.v t.zero)

def zeroRow (t : Ty) (len : Nat) : List SV := (List.range (len * t.size)).map fun j => ((zeroCells t)[j % t.size]?).getD (.v undef)

def aggCells : SV → Option (List SV)
  | .ag xs => some xs
  | .v (.agg cs) => some (cs.toList.map SV.v)
  | _ => none

def placeOf (C : Cx) : TyD → Nat → Option (Nat × Nat)
  | .stc fs, i => match fs[i]? with
    | some (off, ft) => match C.ty ft with
      | some t => some (off, t.size)
      | none => none
    | none => none
  | .arr _ e, i => match C.ty e with
    | some t => some (i * t.size, t.size)
    | none => none
  | _, _ => none

def placeable (C : Cx) : TyD → Bool
  | .stc _ => true
  | .arr _ e => (C.ty e).isSome
  | _ => false

def rcell (R : RO) (a : Addr) : Option Value :=
  match R a.block with
  | some (.cells c _ _) => if a.spot.isSome then none else c[a.off]?
  | _ => none

/-- A cell that is known: of read-only memory, or of a row of the call's own. -/
def KCell (R : RO) (rs : List Row) (ad : Addr) (v : Value) : Prop :=
  rcell R ad = some v ∨ ∃ r ∈ rs, ∃ a j, r.a = some a ∧ ad = a.add j ∧ r.xs[j]? = some v

/-- What known memory holds at an address, as a value of a type. -/
def RLoad (R : RO) (rs : List Row) (a : Addr) (agg : Bool) (size : Nat) (x : Value) : Prop :=
  match agg with
  | true => ∃ cs : List Value, x = .agg cs.toArray ∧ cs.length = size ∧ ∀ (i : Nat) (v : Value), cs[i]? = some v → KCell R rs (a.add i) v
  | false => KCell R rs a x

/-- A stop: known memory is read. -/
structure LoadP (R : RO) (rs : List Row) (a : Addr) (agg : Bool) (size : Nat) (K : Value → Prop) : Prop where
  go : ∃ x, RLoad R rs a agg size x ∧ K x

def intBin (C : Cx) (op : BinOp) (k : IntKind) (x y : Int) (K : SV → Prop) : Prop :=
  match op with
  | .add | .sub | .mul | .and | .or | .xor | .andNot => K (.v (.int k (C.A.bin op k x y)))
  | .quo | .rem => Chk (fun _ => y ≠ 0) (K (.v (.int k (C.A.bin op k x y))))
  | .shl | .shr => Chk (fun _ => 0 ≤ y) (K (.v (.int k (C.A.bin op k x y))))
  | .eql | .neq | .lss | .leq | .gtr | .geq => K (.v (.bool (C.A.cmp op x y)))

def isShift : BinOp → Bool
  | .shl | .shr => true
  | _ => false

def nilCmp (C : Cx) (op : BinOp) (x : Bool) (K : SV → Prop) : Prop :=
  match op with
  | .eql => K (.v (.bool x))
  | .neq => K (.v (.bool (C.A.not x)))
  | _ => False

def optNone {α : Type} : Option α → Bool
  | none => true
  | some _ => false

/-- A stop: an operation on values of the model alone, of which the model itself is asked. -/
structure RawP (P : Program) (o : Oper) (ev : Operand → Value) (K : Value → Prop) : Prop where
  go : ∃ x, (∀ w, (execOp ev o).run P w = .ok (.value x) w) ∧ K x

def rawEv (s : St) (x : Operand) : Value := match s.ev x with
  | some (.v y) => y
  | _ => undef

def isC : Operand → Bool
  | .const _ => true
  | _ => false

def binVC (C : Cx) (s : St) (o : Oper) (op : BinOp) (D : Option Ty) (cst : Bool) (a b : SV) (K : SV → Prop) : Prop :=
  match a, b with
  | .v (.int k x), .v (.int k' y) => bif isShift op || (k == k') then intBin C op k x y K else Stuck "kinds" s o
  | .v (.bool x), .v (.bool y) =>
    match D with
    | some ⟨.bool, _, _, _, _⟩ => nilCmp C op (C.A.beq x y) K
    | _ => Stuck "bool" s o
  | .v (.string x), .v (.string y) =>
    match op with
    | .add => Chk (fun _ => (x.size + y.size : Nat) ≤ (9223372036854775807 : Nat)) (K (.v (.string (C.A.cat x y))))
    | .eql | .neq | .lss | .leq | .gtr | .geq => K (.v (.bool (C.A.scmp op x y)))
    | _ => False
  | .v (.pointer none), .v (.pointer y) =>
    match D with
    | some ⟨.ptr, _, _, _, _⟩ => nilCmp C op (optNone y) K
    | _ => Stuck "pointer" s o
  | .v (.pointer (some _)), .v (.pointer none) =>
    match D with
    | some ⟨.ptr, _, _, _, _⟩ => nilCmp C op false K
    | _ => Stuck "pointer" s o
  | .p _ _, .v (.pointer none) =>
    match D with
    | some ⟨.ptr, _, _, _, _⟩ => nilCmp C op false K
    | _ => Stuck "pointer" s o
  | .v (.pointer none), .p _ _ =>
    match D with
    | some ⟨.ptr, _, _, _, _⟩ => nilCmp C op false K
    | _ => Stuck "pointer" s o
  | .v (.slice none _ _), .v (.slice y _ _) =>
    match D with
    | some ⟨.slc _, _, _, _, _⟩ => nilCmp C op (optNone y) K
    | _ => Stuck "slice" s o
  | .v (.slice (some _) _ _), .v (.slice none _ _) =>
    match D with
    | some ⟨.slc _, _, _, _, _⟩ => nilCmp C op false K
    | _ => Stuck "slice" s o
  | .se _ _ _ _, .v (.slice none _ _) =>
    match D with
    | some ⟨.slc _, _, _, _, _⟩ => nilCmp C op false K
    | _ => Stuck "slice" s o
  | .v .nilIface, .v .nilIface =>
    match D, cst with
    | some ⟨.ifc, _, _, _, _⟩, true => nilCmp C op true K
    | _, _ => Stuck "interface" s o
  | .v (.iface _ _), .v .nilIface =>
    match D with
    | some ⟨.ifc, _, _, _, _⟩ => nilCmp C op false K
    | _ => Stuck "interface" s o
  | .ifc _ _, .v .nilIface =>
    match D with
    | some ⟨.ifc, _, _, _, _⟩ => nilCmp C op false K
    | _ => Stuck "interface" s o
  | .v _, .v _ => RawP C.P o (rawEv s) fun x => K (.v x)
  | _, _ => RawH C s o K

def natI (C : Cx) (n : Nat) : SV := .v (.int .i64 (C.A.ofNat n))

def lenVC (C : Cx) (D : Option Ty) (x : SV) (K : SV → Prop) : Prop :=
  match D, x with
  | some ⟨.slc _, _, _, _, _⟩, .v (.slice _ n _) => K (natI C n)
  | some ⟨.str, _, _, _, _⟩, .v (.string s) => K (natI C (C.A.ssize s))
  | some ⟨.slc _, _, _, _, _⟩, .se _ _ n _ => K (natI C n)
  | some ⟨.arr n _, _, _, _, _⟩, _ => K (natI C n)
  | _, _ => False

def setHp : List (Nat × HB) → Nat → HB → List (Nat × HB)
  | [], _, _ => []
  | (k, b) :: r, l, b' => bif Nat.beq k l then (k, b') :: r else (k, b) :: setHp r l b'

/-- A new block. -/
def St.new (s : St) (T : Nat) (cs : List SV) : St := { s with hp := (s.nx, ⟨T, cs⟩) :: s.hp, nx := s.nx + 1 }

def one : SV → Bool
  | .v (.agg _) | .v (.tuple _) | .ag _ | .tu _ => false
  | _ => true

def sizedCells (t : Ty) (x : SV) : Option (List SV) :=
  if t.agg then
    match x with
    | .ag xs => bif Nat.beq xs.length t.size && xs.all one then some xs else none
    | .v (.agg cs) => bif Nat.beq cs.toList.length t.size && (cs.toList.map SV.v).all one then some (cs.toList.map SV.v) else none
    | _ => none
  else bif one x && Nat.beq t.size 1 then some [x] else none

def isIfc : TyD → Bool
  | .ifc => true
  | _ => false

def mkIf (T : Nat) : SV → SV
  | .v x => .v (.iface T x)
  | x => .ifc T x

/-- What is appended, or copied: its cells. -/
inductive SrcK (s : St) (sz : Nat) : SV → Nat → List Value → Prop
  | nil (c : Nat) : SrcK s sz (.v (.slice none 0 c)) 0 []
  | raw (a : Addr) (m c : Nat) (news : List Value) (hl : news.length = m * sz) (hc : ∀ (j : Nat) (v : Value), news[j]? = some v → KCell s.R s.rw_ (a.add j) v) (h1 : ∀ v ∈ news, v.oneCell' = true) : SrcK s sz (.v (.slice (some a) m c)) m news
  | own (l o m c : Nat) (b : HB) (news : List Value) (hb : find s.hp l = some b) (hn : rawL ((b.cs.drop o).take (m * sz)) = some news) (hl : news.length = m * sz) (h1 : ∀ v ∈ news, v.oneCell' = true) : SrcK s sz (.se l o m c) m news
  | str (x : ByteArray) (h1 : sz = 1) : SrcK s sz (.v (.string x)) x.size (byteCells x)

def dropHp : List (Nat × HB) → Nat → List (Nat × HB)
  | [], _ => []
  | (k, b) :: r, l => bif Nat.beq k l then dropHp r l else (k, b) :: dropHp r l

/-- What is appended to: a slice of the call's own, which is used up. -/
inductive BaseK (s : St) (e sz : Nat) : SV → Nat → List Value → List (Nat × HB) → List Row → Prop
  | nil : BaseK s e sz (.v (.slice none 0 0)) 0 [] s.hp s.rw_
  | row (i : Nat) (r : Row) (hr : s.rw_[i]? = some r) (he : r.e = e) (hz : r.sz = sz) : BaseK s e sz (.v (.slice r.a r.n r.cap)) r.n r.xs s.hp (s.rw_.eraseIdx i)
  | own (l n : Nat) (b : HB) (xs : List Value) (hb : find s.hp l = some b) (he : b.ty = e) (hn : rawL b.cs = some xs) (hl : xs.length = n * sz) (h63 : n ≤ 4611686018427387904) : BaseK s e sz (.se l 0 n n) n xs (dropHp s.hp l) s.rw_

/-- A stop: append. -/
structure AppP (s : St) (e sz bytes : Nat) (x y : SV) (K : List (Nat × HB) → List Row → SV → Prop) : Prop where
  go : ∃ n xs hp' rs0 rs' m news, BaseK s e sz x n xs hp' rs0 ∧ rs'.Sublist rs0 ∧ SrcK s sz y m news ∧ (n + m) ≤ 4611686018427387904 ∧ (n + m) * bytes ≤ 140737488355328 ∧
    ∀ a n' cap zs, n' = n + m → zs = xs ++ news → (n' ≠ 0 → a.isSome = true) → K hp' (⟨a, n', cap, e, sz, zs⟩ :: rs') (.v (.slice a n' cap))

/-- A stop: a new row of zeros. -/
structure MakeP (s : St) (e sz bytes : Nat) (len cap : Int) (z : List Value) (K : List Row → SV → Prop) : Prop where
  lo : 0 ≤ len
  hi : len ≤ cap
  mx : cap * bytes ≤ 140737488355328
  m2 : cap ≤ 4611686018427387904
  go : ∀ a (n c : Nat) zs, (n : Int) = len → (c : Int) = cap → zs = (List.replicate n z).flatten → K (⟨some a, n, c, e, sz, zs⟩ :: s.rw_) (.v (.slice (some a) n c))

/-- A stop: a cell of a row of the call's own is written. -/
structure StoreP (s : St) (ad : Addr) (vs : List Value) (K : List Row → Prop) : Prop where
  go : ∃ i r a j, s.rw_[i]? = some r ∧ r.a = some a ∧ ad = a.add j ∧ j + vs.length ≤ r.xs.length ∧ ∀ zs, zs = r.xs.take j ++ vs ++ r.xs.drop (j + vs.length) → K (s.rw_.set i { r with xs := zs })

/-- A stop: a slice of a slice. -/
structure SliceP (a : Option Addr) (len cap sz : Nat) (lo hi : Option Int) (K : SV → Prop) : Prop where
  go : ∃ l h : Nat, (l : Int) = lo.getD 0 ∧ (h : Int) = hi.getD len ∧ l ≤ h ∧ h ≤ cap ∧
    ∀ a' n c, n = h - l → c = cap - l → a' = (if cap = l then a else a.map (·.add (l * sz))) → K (.v (.slice a' n c))

/-- A stop: a part of a string. -/
structure SubP (x : ByteArray) (lo hi : Option Int) (K : ByteArray → Prop) : Prop where
  go : ∃ l h : Nat, (l : Int) = lo.getD 0 ∧ (h : Int) = hi.getD x.size ∧ l ≤ h ∧ h ≤ x.size ∧ ∀ y, y = x.extract l h → K y

/-- A stop: copy. -/
structure CopyP (s : St) (sz : Nat) (a : Option Addr) (len : Nat) (y : SV) (K : List Row → Nat → Prop) : Prop where
  go : ∃ m news, SrcK s sz y m news ∧ ((min m len = 0 ∧ K s.rw_ 0) ∨ ∃ i r b j ad, a = some ad ∧ s.rw_[i]? = some r ∧ r.a = some b ∧ ad = b.add j ∧ j + min m len * sz ≤ r.xs.length ∧
    ∀ n zs, n = min m len → zs = r.xs.take j ++ news.take (n * sz) ++ r.xs.drop (j + n * sz) → K (s.rw_.set i { r with xs := zs }) n)

/-- A stop: bytes as a string. -/
structure StrP (s : St) (x : SV) (K : ByteArray → Prop) : Prop where
  go : ∃ (m : Nat) (news : List Value) (bs : ByteArray), SrcK s 1 x m news ∧ news = byteCells bs ∧ K bs

/-- A stop: a block that is never written again. -/
structure FrzP (s : St) (T : Nat) (cs : List SV) (K : RO → Nat → Prop) : Prop where
  go : ∃ vs, rawL cs = some vs ∧ ∀ R' b, s.R.le R' → R' b = some (.cells vs.toArray T (0, 0)) → K R' b

def isFz (C : Cx) (d : Option Tmp) : Bool := match d with
  | some t => C.fz.any (Nat.beq t)
  | none => false

/-- An append of which the model is asked. -/
def isAp (C : Cx) (d : Option Tmp) : Bool := match d with
  | some t => C.fz.any (Nat.beq (700 + t))
  | none => false

def apOk (C : Cx) (d : Option Tmp) (t : Ty) : Bool := (Nat.beq (zeroCells t).length t.size && !Nat.beq t.size 4096) && !isAp C d

def isRw (C : Cx) (d : Option Tmp) : Bool := match d with
  | some t => C.fz.any (Nat.beq (500 + t))
  | none => false

def isRh (C : Cx) (d : Option Tmp) : Bool := match d with
  | some t => C.fz.any (Nat.beq (800 + t))
  | none => false

def someO : Option Operand → Bool
  | none => false
  | some _ => true

def intO (s : St) : Option Operand → Option (Option Int)
  | none => some none
  | some x => match s.ev x with
    | some (.v (.int _ n)) => some (some n)
    | _ => none

def sliceFb (C : Cx) (s : St) (o : Oper) (lo hi : Option Operand) (K : St → Prop) : Prop :=
  match lo, hi with
  | none, none => Stuck "slice" s o
  | _, _ => RawH C s o fun r => s.put C o.dst r K

/-- One operation (of a region that draws its order). -/
def opVQ (C : Cx) (s : St) (o : Oper) (K : St → Prop) : Prop :=
  match o.op with
  | .move x | .assign x =>
    match s.ev x with
    | some a => s.put C o.dst a K
    | none => Stuck "operand" s o
  | .pick c a b =>
    match s.ev c, s.ev a, s.ev b with
    | some (.v (.bool x)), some y, some z => br x (fun _ => s.put C o.dst y K) (fun _ => s.put C o.dst z K)
    | some (.v (.bool x)), some y, none => Chk (fun _ => x = true) (s.put C o.dst y K)
    | some (.v (.bool x)), none, some z => Chk (fun _ => x = false) (s.put C o.dst z K)
    | _, _, _ => Stuck "pick" s o
  | .alloc T =>
    match C.ty T with
    | some t => (bif isRw C o.dst then (fun _ : Unit => RowA s T (zeroCells t) fun rs' a => ({ s with rw_ := rs' } : St).put C o.dst (.v (.pointer (some a))) K) else fun _ => (bif isFz C o.dst then (fun _ : Unit => FrzP s T (zeroCells t) fun R' b => ({ s with R := R' } : St).put C o.dst (.v (.pointer (some ⟨b, 0, none⟩))) K) else fun _ => (s.new T (zeroCells t)).put C o.dst (.p s.nx 0) K) ()) ()
    | none => Stuck "alloc" s o
  | .box T x =>
    match s.ev x with
    | some a => (bif isRw C o.dst then (fun _ : Unit => RowA s T (cellsOf a) fun rs' b => ({ s with rw_ := rs' } : St).put C o.dst (.v (.pointer (some b))) K) else fun _ => (bif isFz C o.dst then (fun _ : Unit => FrzP s T (cellsOf a) fun R' b => ({ s with R := R' } : St).put C o.dst (.v (.pointer (some ⟨b, 0, none⟩))) K) else fun _ => (s.new T (cellsOf a)).put C o.dst (.p s.nx 0) K) ()) ()
    | none => Stuck "box" s o
  | .build T parts =>
    match C.ty T, evs s (parts.toList.map (·.2)) with
    | some t, some vs =>
      match placeable C t.d, fillS (placeOf C t.d) (zeroCells t) ((parts.toList.map (·.1)).zip vs) with
      | true, some cs => s.put C o.dst (mkAg cs) K
      | _, _ => Stuck "build: fill" s o
    | _, _ => Stuck "build" s o
  | .buildSlice T len parts =>
    match C.ty T, evs s (parts.toList.map (·.2)) with
    | some ⟨.slc e, _, _, _, _⟩, some vs =>
      match C.ty e with
      | some t =>
        match Nat.beq (zeroCells t).length t.size && Nat.ble (len * t.size) 16777216, fillS (fun i => some (i * t.size, t.size)) (zeroRow t len) ((parts.toList.map (·.1)).zip vs) with
        | true, some cs => (bif isFz C o.dst then (fun _ : Unit => FrzP s e cs fun R' b => ({ s with R := R' } : St).put C o.dst (.v (.slice (some ⟨b, 0, none⟩) len len)) K) else fun _ => (s.new e cs).put C o.dst (.se s.nx 0 len len) K) ()
        | _, _ => Stuck "buildSlice: fill" s o
      | none => Stuck "buildSlice: element" s o
    | _, _ => Stuck "buildSlice" s o
  | .load T x =>
    match s.ev x, C.ty T with
    | some (.p l off), some t =>
      match find s.hp l with
      | some b => match takeAt b.cs off t with
        | some a => s.put C o.dst a K
        | none => Stuck "load: cells" s o
      | none => Stuck "load: block" s o
    | some (.v (.pointer (some a))), some t => LoadP s.R s.rw_ a t.agg t.size fun x => s.put C o.dst (.v x) K
    | _, _ => Stuck "load" s o
  | .store T x y =>
    match s.ev x, s.ev y, C.ty T with
    | some (.p l off), some v, some t =>
      match find s.hp l, sizedCells t v with
      | some b, some cs =>
        bif Nat.ble (off + cs.length) b.cs.length then ({ s with hp := setHp s.hp l { b with cs := putAt b.cs off cs } } : St).put C o.dst (.v undef) K else Stuck "store: bounds" s o
      | _, _ => Stuck "store: cells" s o
    | some (.v (.pointer (some ad))), some v, some t =>
      match sizedCells t v with
      | some cs => match rawL cs with
        | some vs => StoreP s ad vs fun rs' => ({ s with rw_ := rs' } : St).put C o.dst (.v undef) K
        | none => Stuck "store: raw" s o
      | none => Stuck "store: raw cells" s o
    | _, _, _ => GenP C s o fun R' hp' nx' rs' r => ({ s with R := R', hp := hp', nx := nx', rw_ := rs' } : St).put C o.dst r K
  | .nilCheck x =>
    match s.ev x with
    | some (.v (.pointer (some a))) => s.put C o.dst (.v (.pointer (some a))) K
    | some (.p l off) => s.put C o.dst (.p l off) K
    | some (.fn f xs ys) => NilP C s o (.fn f xs ys) (s.put C o.dst (.fn f xs ys) K)
    | some (.v (.func f xs ys)) => NilP C s o (.v (.func f xs ys)) (s.put C o.dst (.v (.func f xs ys)) K)
    | _ => Stuck "nilCheck" s o
  | .makeFunc f xs ys =>
    match evs s xs.toList, evs s ys.toList with
    | some a, some b => s.put C o.dst (mkFn f a b) K
    | _, _ => Stuck "makeFunc" s o
  | .binOp op T x y _ =>
    match s.ev x, s.ev y with
    | some a, some b => binVC C s o op (C.ty T) (isC x || isC y) a b fun r => s.put C o.dst r K
    | _, _ => Stuck "binOp: operands" s o
  | .unOp op _ x =>
    match op, s.ev x with
    | .not, some (.v (.bool b)) => s.put C o.dst (.v (.bool (C.A.not b))) K
    | .neg, some (.v (.int k n)) => s.put C o.dst (.v (.int k (C.A.neg k n))) K
    | .xor, some (.v (.int k n)) => s.put C o.dst (.v (.int k (C.A.com k n))) K
    | _, _ => RawH C s o fun r => s.put C o.dst r K
  | .convert S D x =>
    match C.ty S, C.ty D, s.ev x with
    | some ⟨.int _, _, _, _, _⟩, some ⟨.int k, _, _, _, _⟩, some (.v (.int _ n)) => s.put C o.dst (.v (.int k (C.A.conv k n))) K
    | some ⟨.slc e, _, _, _, _⟩, some ⟨.str, _, _, _, _⟩, some (.v (.slice a n c)) =>
      match C.ty e with
      | some ⟨.int .u8, _, _, _, _⟩ => StrP s (.v (.slice a n c)) fun y => s.put C o.dst (.v (.string y)) K
      | _ => RawH C s o fun r => s.put C o.dst r K
    | some ⟨.slc e, _, _, _, _⟩, some ⟨.str, _, _, _, _⟩, some (.se l off n c) =>
      match C.ty e with
      | some ⟨.int .u8, _, _, _, _⟩ => StrP s (.se l off n c) fun y => s.put C o.dst (.v (.string y)) K
      | _ => RawH C s o fun r => s.put C o.dst r K
    | some ⟨.str, _, _, _, _⟩, some ⟨.str, _, _, _, _⟩, some (.v (.string y)) => s.put C o.dst (.v (.string y)) K
    | _, _, _ => RawH C s o fun r => s.put C o.dst r K
  | .slice T x lo hi none => (bif (someO lo || someO hi) && isRh C o.dst then (fun _ : Unit => RawH C s o fun r => s.put C o.dst r K) else fun _ =>
    match C.ty T, s.ev x, intO s lo, intO s hi with
    | some ⟨.slc e, _, _, _, _⟩, some (.v (.slice a len cap)), some l, some h =>
      match C.ty e with
      | some t => SliceP a len cap t.size l h fun v => s.put C o.dst v K
      | none => Stuck "slice: element" s o
    | some ⟨.str, _, _, _, _⟩, some (.v (.string b)), some l, some h => SubP b l h fun y => s.put C o.dst (.v (.string y)) K
    | some ⟨.arr n e, _, _, _, _⟩, some (.p l off), some none, some none =>
      match C.ty e with
      | some _ => s.put C o.dst (.se l off n n) K
      | none => Stuck "slice: element" s o
    | some ⟨.arr n e, _, _, _, _⟩, some (.v (.pointer (some a))), some none, some none =>
      match C.ty e with
      | some _ => s.put C o.dst (.v (.slice (some a) n n)) K
      | none => Stuck "slice: element" s o
    | _, _, _, _ => sliceFb C s o lo hi K) ()
  | .slice _ _ _ _ (some _) => RawH C s o fun r => s.put C o.dst r K
  | .index T x i =>
    match C.ty T, s.ev x, s.ev i with
    | some ⟨.str, _, _, _, _⟩, some (.v (.string b)), some (.v (.int _ n)) => Chk (fun _ => 0 ≤ n ∧ n < b.size) (s.put C o.dst (.v (.int .u8 (C.A.sget b n))) K)
    | _, _, _ => RawH C s o fun r => s.put C o.dst r K
  | .makeInterface T x =>
    match s.ev x, C.ty T with
    | some x, some t => bif isIfc t.d then Stuck "makeInterface of an interface" s o else s.put C o.dst (mkIf T x) K
    | _, _ => Stuck "makeInterface" s o
  | .fieldAddr T x f =>
    match s.ev x, C.ty T with
    | some (.p l off), some ⟨.stc fs, _, _, _, _⟩ =>
      match fs[f]? with
      | some (d, ft) => match C.ty ft with
        | some t => bif Nat.beq t.size 0 then Stuck "fieldAddr: size" s o else s.put C o.dst (.p l (off + d)) K
        | none => Stuck "fieldAddr: type" s o
      | none => Stuck "fieldAddr: field" s o
    | some (.v (.pointer (some a))), some ⟨.stc fs, _, _, _, _⟩ =>
      match fs[f]? with
      | some (d, ft) => match C.ty ft with
        | some t => bif Nat.beq t.size 0 then Stuck "fieldAddr: size" s o else s.put C o.dst (.v (.pointer (some (C.A.fld a d)))) K
        | none => Stuck "fieldAddr: type" s o
      | none => Stuck "fieldAddr: field" s o
    | _, _ => Stuck "fieldAddr" s o
  | .field T x f =>
    match s.ev x, C.ty T with
    | some x, some ⟨.stc fs, _, _, _, _⟩ =>
      match fs[f]? with
      | some (d, ft) => match C.ty ft with
        | some t => match aggCells x with
          | some cs => match takeAt cs d t with
            | some a => s.put C o.dst a K
            | none => Stuck "field: cells" s o
          | none => Stuck "field: no aggregate" s o
        | none => Stuck "field: type" s o
      | none => Stuck "field: no such" s o
    | _, _ => RawH C s o fun r => s.put C o.dst r K
  | .indexAddr T x i =>
    match s.ev x, s.ev i, C.ty T with
    | some (.v (.slice a len _)), some (.v (.int _ n)), some ⟨.slc e, _, _, _, _⟩ =>
      match C.ty e with
      | some t => Idx n (C.A.ofNat len) a (s.put C o.dst (.v (.pointer (some (C.A.elem a n t.size)))) K)
      | none => Stuck "indexAddr: type" s o
    | some (.v (.pointer (some a))), some (.v (.int _ n)), some ⟨.arr len e, _, _, _, _⟩ =>
      match C.ty e with
      | some t => Idx n (C.A.ofNat len) (some a) (s.put C o.dst (.v (.pointer (some (C.A.elem (some a) n t.size)))) K)
      | none => Stuck "indexAddr: type" s o
    | some (.p l off), some (.v (.int _ (.ofNat n))), some ⟨.arr len e, _, _, _, _⟩ =>
      match C.ty e with
      | some t => bif Nat.blt n len then s.put C o.dst (.p l (off + n * t.size)) K else Stuck "indexAddr: bounds" s o
      | none => Stuck "indexAddr: type" s o
    | _, _, _ => RawH C s o fun r => s.put C o.dst r K
  | .typeAssert x _ T true =>
    match C.ty T, s.ev x with
    | some t, some (.v .nilIface) => bif isIfc t.d then (RawH C s o fun r => s.put C o.dst r K) else s.put C o.dst (.tu [.v t.zero, .v (.bool false)]) K
    | some t, some (.v (.iface u y)) => bif isIfc t.d then (RawH C s o fun r => s.put C o.dst r K) else
      bif Nat.beq u T then s.put C o.dst (.tu [.v y, .v (.bool true)]) K else s.put C o.dst (.tu [.v t.zero, .v (.bool false)]) K
    | some t, some (.ifc u y) => bif isIfc t.d then (RawH C s o fun r => s.put C o.dst r K) else
      bif Nat.beq u T then s.put C o.dst (.tu [y, .v (.bool true)]) K else s.put C o.dst (.tu [.v t.zero, .v (.bool false)]) K
    | _, _ => RawH C s o fun r => s.put C o.dst r K
  | .typeAssert _ _ _ false => RawH C s o fun r => s.put C o.dst r K
  | .extract x i =>
    match s.ev x with
    | some (.tu xs) => match xs[i]? with
      | some a => s.put C o.dst a K
      | none => Stuck "extract: component" s o
    | some (.v (.tuple xs)) => match xs.toList[i]? with
      | some a => s.put C o.dst (.v a) K
      | none => Stuck "extract: component" s o
    | _ => Stuck "extract" s o
  | .call c =>
    match c.callee with
    | .value (.func f) =>
      match evs s c.args.toList with
      | some vs => (bif C.fz.any (Nat.beq (1000 + f)) then (fun _ : Unit => GenP C s o fun R' hp' nx' rs' r => ({ s with R := R', hp := hp', nx := nx', rw_ := rs' } : St).put C o.dst r K) else fun _ => CallP C.P f vs s.R s.hp s.nx s.rw_ fun R' hp' nx' rs' r => ({ s with R := R', hp := hp', nx := nx', rw_ := rs' } : St).put C o.dst r K) ()
      | none => Stuck "call: operands" s o
    | .value (.tmp t) =>
      match find s.fr t, evs s c.args.toList with
      | some (.v (.func (.func f) xs ys)), some vs => CallP C.P f (xs.toList.map .v ++ vs ++ ys.toList.map .v) s.R s.hp s.nx s.rw_ fun R' hp' nx' rs' r => ({ s with R := R', hp := hp', nx := nx', rw_ := rs' } : St).put C o.dst r K
      | some (.fn (.func f) xs ys), some vs => CallP C.P f (xs ++ vs ++ ys) s.R s.hp s.nx s.rw_ fun R' hp' nx' rs' r => ({ s with R := R', hp := hp', nx := nx', rw_ := rs' } : St).put C o.dst r K
      | _, _ => GenP C s o fun R' hp' nx' rs' r => ({ s with R := R', hp := hp', nx := nx', rw_ := rs' } : St).put C o.dst r K
    | .builtin .len =>
      match evs s c.args.toList with
      | some [x] => lenVC C ((c.argTypes[0]?).bind (C.ty)) x fun r => s.put C o.dst r K
      | _ => Stuck "len" s o
    | .builtin .append =>
      match evs s c.args.toList, (c.argTypes[0]?).bind (C.ty), (c.argTypes[1]?).bind (C.ty) with
      | some [x, y], some ⟨.slc e, _, _, _, _⟩, some t2 =>
        match C.ty e, t2.d with
        | some t, .slc _ => (bif apOk C o.dst t then (fun _ : Unit => AppP s e t.size t.bytes x y fun hp' rs' r => ({ s with hp := hp', rw_ := rs' } : St).put C o.dst r K) else fun _ => GenP C s o fun R' hp' nx' rs' r => ({ s with R := R', hp := hp', nx := nx', rw_ := rs' } : St).put C o.dst r K) ()
        | some t, .str => (bif apOk C o.dst t then (fun _ : Unit => AppP s e t.size t.bytes x y fun hp' rs' r => ({ s with hp := hp', rw_ := rs' } : St).put C o.dst r K) else fun _ => GenP C s o fun R' hp' nx' rs' r => ({ s with R := R', hp := hp', nx := nx', rw_ := rs' } : St).put C o.dst r K) ()
        | _, _ => GenP C s o fun R' hp' nx' rs' r => ({ s with R := R', hp := hp', nx := nx', rw_ := rs' } : St).put C o.dst r K
      | _, _, _ => GenP C s o fun R' hp' nx' rs' r => ({ s with R := R', hp := hp', nx := nx', rw_ := rs' } : St).put C o.dst r K
    | .builtin .copy =>
      match evs s c.args.toList, (c.argTypes[0]?).bind (C.ty) with
      | some [.v (.slice a len _), y], some ⟨.slc e, _, _, _, _⟩ =>
        match C.ty e with
        | some t => CopyP s t.size a len y fun rs' n => ({ s with rw_ := rs' } : St).put C o.dst (natI C n) K
        | none => Stuck "copy: element" s o
      | _, _ => GenP C s o fun R' hp' nx' rs' r => ({ s with R := R', hp := hp', nx := nx', rw_ := rs' } : St).put C o.dst r K
    | _ => GenP C s o fun R' hp' nx' rs' r => ({ s with R := R', hp := hp', nx := nx', rw_ := rs' } : St).put C o.dst r K
  | .makeSlice T x y =>
    match C.ty T, s.ev x, s.ev y with
    | some ⟨.slc e, _, _, _, _⟩, some (.v (.int _ n)), some (.v (.int _ c)) =>
      match C.ty e with
      | some t => match rawL (zeroCells t) with
        | some z => bif (Nat.beq z.length t.size && !Nat.beq t.size 4096) then MakeP s e t.size t.bytes n c z fun rs' r => ({ s with rw_ := rs' } : St).put C o.dst r K else Stuck "makeSlice: element" s o
        | none => Stuck "makeSlice: zero" s o
      | none => Stuck "makeSlice: type" s o
    | _, _, _ => GenP C s o fun R' hp' nx' rs' r => ({ s with R := R', hp := hp', nx := nx', rw_ := rs' } : St).put C o.dst r K
  | _ => GenP C s o fun R' hp' nx' rs' r => ({ s with R := R', hp := hp', nx := nx', rw_ := rs' } : St).put C o.dst r K

def isStr : TyD → Bool
  | .str => true
  | _ => false

def isSlc : TyD → Bool
  | .slc _ => true
  | _ => false

def toBytes (C : Cx) (S D : Nat) : Bool := match C.ty S, C.ty D with
  | some t, some u => (isStr t.d || isSlc t.d) && isSlc u.d
  | _, _ => false

/-- One operation. -/
def opVC (C : Cx) (s : St) (o : Oper) (K : St → Prop) : Prop :=
  match o.op with
  | .convert S D _ => (bif toBytes C S D then (fun _ : Unit => GenP C s o fun R' hp' nx' rs' r => ({ s with R := R', hp := hp', nx := nx', rw_ := rs' } : St).put C o.dst r K) else fun _ => opVQ C s o K) ()
  | .defer _ => (bif C.fz.any (Nat.beq 499) then (fun _ : Unit => False) else fun _ => DeferP C s o (s.put C o.dst (.v undef) K)) ()
  | _ => opVQ C s o K

def guardOf (ops : Array Oper) (s : St) (j : Nat) : Option SV :=
  match ops[j]? with
  | some o => match o.dst with
    | some d => find s.fr d
    | none => none
  | none => none

def opsVC (C : Cx) (ops : Array Oper) : List Nat → St → (St → Prop) → Prop
  | [], s, K => K s
  | i :: is, s, K =>
    match ops[i]? with
    | none => opsVC C ops is s K
    | some o =>
      match o.guard with
      | none => opVC C s o fun s' => opsVC C ops is s' K
      | some (j, want) =>
        match guardOf ops s j with
        | some (.v (.bool g)) =>
          match want with
          | true => br g (fun _ => opVC C s o fun s' => opsVC C ops is s' K) (fun _ => s.put C o.dst (.v undef) fun s' => opsVC C ops is s' K)
          | false => br g (fun _ => s.put C o.dst (.v undef) fun s' => opsVC C ops is s' K) (fun _ => opVC C s o fun s' => opsVC C ops is s' K)
        | some (.v (.tuple _)) => s.put C o.dst (.v undef) fun s' => opsVC C ops is s' K
        | _ => Stuck "guard" s o

def WkF (fr : List (Nat × SV)) : List (Nat × SV) → Prop
  | [] => True
  | (k, x) :: r => find fr k = some x ∧ WkF fr r

def WkH (hp : List (Nat × HB)) : List (Nat × HB) → Prop
  | [] => True
  | (k, x) :: r => find hp k = some x ∧ WkH hp r

/-- Operations that are quiet. -/
def quietK : Op → Bool
  | .move _ | .assign _ | .pick .. | .build .. | .load .. | .nilCheck _ | .binOp .. | .unOp .. | .convert .. | .makeInterface .. | .fieldAddr .. | .field .. | .indexAddr .. | .typeAssert .. | .extract .. | .slice .. | .index .. | .makeFunc .. => true
  | .call c => match c.callee with
    | .builtin .len => true
    | _ => false
  | _ => false

/-- One operation of a schedule. -/
def sched1 (ops : Array Oper) (i : Nat) (listed : Array Bool) : Bool := match ops[i]? with
  | none => false
  | some o => if quietK o.op then (Region.ready .any ops listed).contains i && Region.free .any ops listed i else Region.ready .any ops listed == [i]

/-- Operations that are not quiet. -/
def loudB (ops : Array Oper) (i : Nat) : Bool := match ops[i]? with
  | none => false
  | some o => !quietK o.op

/-- How many operations a schedule takes. -/
def lenF : Nat → List Nat → Nat
  | 0, _ => 0
  | n + 1, l => match l with
    | [] => 0
    | i :: r => bif Nat.ble 1000 i then (match r with
      | _ :: m :: t => lenF n (t.take m) + 1
      | _ => 0) else lenF n r + 1

/-- A schedule of a region that draws its order: what is quiet may be taken first; all else comes alone, or two at once (1000 + the first one's number, the second one's, how long the schedule behind the first one is, this schedule, that behind the second one). -/
def schedF (ops : Array Oper) : Nat → List Nat → Array Bool → Bool
  | 0, l, listed => l.isEmpty && (Region.ready .any ops listed).isEmpty
  | n + 1, l, listed => match l with
    | [] => (Region.ready .any ops listed).isEmpty
    | i :: r => bif Nat.ble 1000 i then (match r with
      | j :: m :: t => Region.ready .any ops listed == [i - 1000, j] && loudB ops (i - 1000) && loudB ops j && Nat.beq (lenF n (t.take m)) (lenF n (t.drop m)) &&
        schedF ops n (t.take m) (listed.setIfInBounds (i - 1000) true) && schedF ops n (t.drop m) (listed.setIfInBounds j true)
      | _ => false)
      else sched1 ops i listed && schedF ops n r (listed.setIfInBounds i true)

def schedB (ops : Array Oper) (l : List Nat) (listed : Array Bool) : Bool := schedF ops l.length l listed

/-- Operations that read no memory. -/
def pureK : Op → Bool
  | .move _ | .assign _ | .nilCheck _ | .fieldAddr .. | .makeFunc .. | .extract .. => true
  | .slice _ _ none none none => true
  | _ => false

def waitsB (md : Region.Mode) (ops : Array Oper) (m k : Nat) : Bool := ((ops[m]?).map fun o => o.after.any fun e => Region.binds md e && e.on == k).getD false

/-- Operations that lead on to t. -/
def ancs (md : Region.Mode) (ops : Array Oper) (t : Nat) : Nat → List Nat
  | 0 => [t]
  | d + 1 => let r := ancs md ops t d
    (fun k => if r.any fun m => waitsB md ops m k then k :: r else r) (t - (d + 1))

def memN (l : List Nat) (i : Nat) : Bool := l.any (Nat.beq i)

/-- Operations behind which memory may have turned: all that read memory lead on to them. (A quiet operation in the list is told to read none: rawOp.) -/
def tailsB (ops : Array Oper) (tl : List Nat) : Bool := tl.all fun t => match ops[t]? with
    | some o => quietK o.op || (fun r : List Nat => (List.range ops.size).all fun k => (match ops[k]? with
      | some o => !quietK o.op || pureK o.op || memN tl k
      | none => true) || r.any (Nat.beq k)) (ancs .any ops t t)
    | none => false

/-- Operations over values of the model, that read no memory. -/
def rawOp (C : Cx) (s : St) : Op → Bool
  | .binOp _ _ x y _ => match s.ev x, s.ev y with
    | some (.v _), some (.v _) => true
    | _, _ => false
  | .indexAddr T x i => match s.ev x, s.ev i, C.ty T with
    | some (.v (.slice _ _ _)), some (.v (.int _ _)), some ⟨.slc _, _, _, _, _⟩ => true
    | some (.v (.pointer (some _))), some (.v (.int _ _)), some ⟨.arr _ _, _, _, _, _⟩ => true
    | _, _, _ => false
  | .pick .. => true
  | _ => false

def opVT (C : Cx) (s : St) (o : Oper) (i : Nat) (tl : List Nat) (K : St → Prop) : Prop :=
  (bif quietK o.op && memN tl i && !rawOp C s o.op then (fun _ : Unit => False) else fun _ => opVQ C s o K) ()

/-- One operation of a region that draws its order. -/
def drawStep (C : Cx) (ops : Array Oper) (tl : List Nat) (i : Nat) (s : St) (K : St → Prop) : Prop :=
    match ops[i]? with
    | none => False
    | some o =>
      match o.guard with
      | none => opVT C s o i tl fun s' => (bif quietK o.op || memN tl i then (fun _ => K s') else fun _ : Unit => Chk (fun _ => WkH s'.hp s.hp ∧ s.rw_.Sublist s'.rw_) (K s')) ()
      | some (j, want) =>
        match guardOf ops s j with
        | some (.v (.bool g)) =>
          match want with
          | true => br g (fun _ => opVT C s o i tl fun s' => (bif quietK o.op || memN tl i then (fun _ => K s') else fun _ : Unit => Chk (fun _ => WkH s'.hp s.hp ∧ s.rw_.Sublist s'.rw_) (K s')) ()) (fun _ => s.put C o.dst (.v undef) fun s' => K s')
          | false => br g (fun _ => s.put C o.dst (.v undef) fun s' => K s') (fun _ => opVT C s o i tl fun s' => (bif quietK o.op || memN tl i then (fun _ => K s') else fun _ : Unit => Chk (fun _ => WkH s'.hp s.hp ∧ s.rw_.Sublist s'.rw_) (K s')) ())
        | some (.v (.tuple _)) => s.put C o.dst (.v undef) fun s' => K s'
        | _ => Stuck "guard" s o

def drawF (C : Cx) (ops : Array Oper) (tl : List Nat) : Nat → List Nat → St → (St → Prop) → Prop
  | 0, _, s, K => K s
  | n + 1, l, s, K => match l with
    | [] => K s
    | i :: r => (bif Nat.ble 1000 i then (fun _ : Unit => match r with
      | j :: m :: t => drawStep C ops tl (i - 1000) s (fun s' => drawF C ops tl n (t.take m) s' K) ∧ drawStep C ops tl j s (fun s' => drawF C ops tl n (t.drop m) s' K)
      | _ => False)
      else fun _ => drawStep C ops tl i s fun s' => drawF C ops tl n r s' K) ()

/-- A region that draws its order, by a schedule. -/
def drawVC (C : Cx) (ops : Array Oper) (tl : List Nat) (l : List Nat) (s : St) (K : St → Prop) : Prop := drawF C ops tl l.length l s K

/-- A stop: a region that draws its order. -/
structure DrawP (P : Program) (ops : Array Oper) (vc : List Nat → List Nat → Prop) : Prop where
  go : ∃ l tl, P.follows .mixedOrders = true ∧ (Region.noSelect ops && schedB ops l (Array.replicate ops.size false) && Nat.beq (lenF l.length l) ops.size && tailsB ops tl) = true ∧ vc l tl

mutual
def labB (n : Nat) : SV → Bool
  | .v _ => true
  | .p l _ => Nat.blt l n
  | .se l _ _ _ => Nat.blt l n
  | .ag xs => labLB n xs
  | .tu xs => labLB n xs
  | .ifc _ x => labB n x
  | .fn _ xs ys => labLB n xs && labLB n ys
def labLB (n : Nat) : List SV → Bool
  | [] => true
  | x :: xs => labB n x && labLB n xs
end

def labFB (n : Nat) : List (Nat × SV) → Bool
  | [] => true
  | (_, x) :: r => labB n x && labFB n r

def labHB (n : Nat) : List (Nat × HB) → Bool
  | [] => true
  | (l, b) :: r => Nat.blt l n && labLB n b.cs && labHB n r

/-- A state that says less. (Labels from t.nx on are forgotten.) -/
structure Wk (n0 : Nat) (s t : St) : Prop where
  fr : WkF s.fr t.fr
  R : t.R = s.R
  hp : WkH s.hp t.hp
  nx : (Nat.ble n0 t.nx && Nat.ble t.nx s.nx && labFB t.nx t.fr && labHB t.nx t.hp) = true
  rs : t.rw_.Sublist s.rw_

/-- What follows: at the end of a part g, else K. (K stands once: what is behind a stop does not grow with the depth.) -/
def seqK (g : St → (Exit → St → Prop) → Prop) (K : Exit → St → Prop) (e : Exit) (s : St) : Prop :=
  (match e with
    | .normal => fun k : Exit → St → Prop => g s k
    | .exit i => fun k => k (.exit i) s
    | .ret => fun k => k .ret s
    | .goto l => fun k => k (.goto l) s
    | .panic ch => fun k => k (.panic ch) s
    | .outgrown => fun k => k .outgrown s) K

def blockK (i : Nat) (K : Exit → St → Prop) (e : Exit) (s : St) : Prop :=
  K (match e with
    | .exit j => (bif Nat.beq j i then .normal else .exit j)
    | .normal => .normal
    | .ret => .ret
    | .goto l => .goto l
    | .panic ch => .panic ch
    | .outgrown => .outgrown) s

def roundK {ι : Type} (T : ι → St) (p : Nat → ι → Prop) (n n0 : Nat) (s : St) (_ : Exit → St → Prop) : Prop := ∃ m j, m < n ∧ Wk n0 s (T j) ∧ p m j

/-- A stop: a loop: states with letters in them, and what the letters are. -/
structure LoopP (vc : St → (Exit → St → Prop) → Prop) (s : St) (K : Exit → St → Prop) : Prop where
  go : ∃ (ι : Type) (T : ι → St) (p : Nat → ι → Prop), (∃ n i, Wk s.nx s (T i) ∧ p n i) ∧ ∀ n i, p n i → vc (T i) (seqK (roundK T p n (T i).nx) K)

/-- Slots that are kept at a branch, where the list begins with 0: those in the list. -/
def keepFr (fz : List Nat) : List (Nat × SV) → List (Nat × SV)
  | [] => []
  | (k, x) :: r => bif memN fz k then (k, x) :: keepFr fz r else keepFr fz r

def dropB : List Nat → Bool
  | 0 :: _ => true
  | _ => false

def St.dropped (C : Cx) (s : St) : St := (bif dropB C.fz then (fun _ : Unit => { s with fr := keepFr C.fz s.fr }) else fun _ => s) ()

/-- Code. -/
def codeVC (C : Cx) : Code → St → (Exit → St → Prop) → Prop
  | .skip, s, K => K .normal s
  | .label _, s, K => K .normal s
  | .exit i, s, K => K (.exit i) s
  | .ret, s, K => K .ret s
  | .seq a b, s, K => codeVC C a s (seqK (fun s' k => codeVC C b s' k) K)
  | .cond c a b, s, K => match s.ev c with
    | some (.v (.bool x)) => br x (fun _ => codeVC C a (s.dropped C) K) (fun _ => codeVC C b (s.dropped C) K)
    | _ => False
  | .block i c, s, K => codeVC C c s (blockK i K)
  | .region _ ops false, s, K => opsVC C ops (List.range ops.size) s (K .normal)
  | .region _ ops true, s, K => DrawP C.P ops fun l tl => drawVC C ops tl l s (K .normal)
  | .loop c, s, K => LoopP (fun s' K' => codeVC C c s' K') s K
  | _, _, _ => False

/-- What is handed back. -/
def resVC (C : Cx) (s : St) : List ResultVar → Option (List SV)
  | [] => some []
  | .tmp t :: r => match find s.fr t, resVC C s r with
    | some x, some l => some (x :: l)
    | _, _ => none
  | .cell d T :: r => match find s.fr d, C.ty T, resVC C s r with
    | some (.p l off), some t, some xs => match find s.hp l with
      | some b => match takeAt b.cs off t with
        | some x => some (x :: xs)
        | none => none
      | none => none
    | _, _, _ => none

def retSV : List SV → SV
  | [x] => x
  | xs => .tu xs

/-- A function's body, to its end. -/
def endVC (C : Cx) (rs : List ResultVar) (K : St → SV → Prop) : Exit → St → Prop
  | .normal, s | .ret, s => match resVC C s rs with
    | some xs => K s (retSV xs)
    | none => False
  | _, _ => False

def fr0 : Nat → List SV → List (Nat × SV)
  | _, [] => []
  | i, x :: xs => (i, x) :: fr0 (i + 1) xs

/-- What the program's own table says of a type. -/
def tdOf : TypeDesc → TyD
  | .int k => .int k
  | .bool => .bool
  | .string => .str
  | .pointer _ => .ptr
  | .interface _ => .ifc
  | .slice e => .slc e
  | .struct fs => .stc (fs.toList.map fun f => (f.offset, f.type))
  | .array n e => .arr n e
  | _ => .other

def aggOf : TypeDesc → Bool
  | .struct _ => true
  | .array _ _ => true
  | _ => false

def fldsOk (P : Program) : TypeDesc → Bool
  | .struct fs => fs.toList.all fun f => (P.info? f.type).isSome
  | _ => true

def tyOf (P : Program) (t : Nat) : Option Ty :=
  match P.info? t, P.underlying t with
  | some i, some d => match i.zero with
    | some z => if fldsOk P d then some ⟨tdOf d, i.size, aggOf d, z, i.bytes⟩ else none
    | none => none
  | _, _ => none

def TysOk (P : Program) (T : Nat → Option Ty) : Prop := ∀ t ty, T t = some ty → tyOf P t = some ty

/-- Where a function's run began. -/
structure En where
  w : World
  ρ : Nat → Nat
  n : Nat
  R : RO
  rs : List Row

def En.own (E : En) (b : Nat) : Prop := Own E.ρ E.n E.rs b

structure SRel (C : Cx) (E : En) (s : St) (ρ : Nat → Nat) (a : Act) (w : World) : Prop where
  fr : ∀ t x, find s.fr t = some x → a.tmps[t]? = some (val ρ x) ∧ lab s.nx x
  sz : a.tmps.size = C.n
  df : (∀ d ∈ a.defers, Harm C.P d) ∧ (C.fz.any (Nat.beq 499) = true → a.defers = [])
  hr : HRel s.R s.hp s.nx s.rw_ ρ w
  ag : ∀ l, l < E.n → ρ l = E.ρ l
  nx : E.n ≤ s.nx
  kp : Keep E.own E.w w
  nw : ∀ l, E.n ≤ l → l < s.nx → E.w.heap.size ≤ ρ l
  rle : E.R.le s.R
  rfr : RO.fresh E.w E.own E.R s.R
  rn : ∀ r ∈ s.rw_, ∀ g, r.blk = some g → E.w.heap.size ≤ g ∨ E.own g

end Go.Se
