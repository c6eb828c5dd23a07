/- Transactions in read-only memory (the definitions). -/
import Derived.Test.YtnlpjppjhikooaaSx
import Derived.Test.YtnlpjppjhikooaaTytx
import Derived.ChangeSlices
set_option linter.unusedSimpArgs false
set_option linter.unusedVariables false
namespace Go.Proofs.Ytnlpjppjhikooaa.Tx
open Go Go.Se Go.Proofs Go.ChangeShapes Go.Proofs.Ytnlpjppjhikooaa.Tytx

theorem l32 {α : Type} {xs : List α} (h : xs.length = 32) : ∃ e0 e1 e2 e3 e4 e5 e6 e7 e8 e9 e10 e11 e12 e13 e14 e15 e16 e17 e18 e19 e20 e21 e22 e23 e24 e25 e26 e27 e28 e29 e30 e31, xs = [e0, e1, e2, e3, e4, e5, e6, e7, e8, e9, e10, e11, e12, e13, e14, e15, e16, e17, e18, e19, e20, e21, e22, e23, e24, e25, e26, e27, e28, e29, e30, e31] := by
  obtain ⟨e0, z0, rfl, k0⟩ := uncons h
  obtain ⟨e1, z1, rfl, k1⟩ := uncons k0
  obtain ⟨e2, z2, rfl, k2⟩ := uncons k1
  obtain ⟨e3, z3, rfl, k3⟩ := uncons k2
  obtain ⟨e4, z4, rfl, k4⟩ := uncons k3
  obtain ⟨e5, z5, rfl, k5⟩ := uncons k4
  obtain ⟨e6, z6, rfl, k6⟩ := uncons k5
  obtain ⟨e7, z7, rfl, k7⟩ := uncons k6
  obtain ⟨e8, z8, rfl, k8⟩ := uncons k7
  obtain ⟨e9, z9, rfl, k9⟩ := uncons k8
  obtain ⟨e10, z10, rfl, k10⟩ := uncons k9
  obtain ⟨e11, z11, rfl, k11⟩ := uncons k10
  obtain ⟨e12, z12, rfl, k12⟩ := uncons k11
  obtain ⟨e13, z13, rfl, k13⟩ := uncons k12
  obtain ⟨e14, z14, rfl, k14⟩ := uncons k13
  obtain ⟨e15, z15, rfl, k15⟩ := uncons k14
  obtain ⟨e16, z16, rfl, k16⟩ := uncons k15
  obtain ⟨e17, z17, rfl, k17⟩ := uncons k16
  obtain ⟨e18, z18, rfl, k18⟩ := uncons k17
  obtain ⟨e19, z19, rfl, k19⟩ := uncons k18
  obtain ⟨e20, z20, rfl, k20⟩ := uncons k19
  obtain ⟨e21, z21, rfl, k21⟩ := uncons k20
  obtain ⟨e22, z22, rfl, k22⟩ := uncons k21
  obtain ⟨e23, z23, rfl, k23⟩ := uncons k22
  obtain ⟨e24, z24, rfl, k24⟩ := uncons k23
  obtain ⟨e25, z25, rfl, k25⟩ := uncons k24
  obtain ⟨e26, z26, rfl, k26⟩ := uncons k25
  obtain ⟨e27, z27, rfl, k27⟩ := uncons k26
  obtain ⟨e28, z28, rfl, k28⟩ := uncons k27
  obtain ⟨e29, z29, rfl, k29⟩ := uncons k28
  obtain ⟨e30, z30, rfl, k30⟩ := uncons k29
  obtain ⟨e31, z31, rfl, k31⟩ := uncons k30
  obtain rfl := List.eq_nil_of_length_eq_zero k31
  exact ⟨_, _, _, _, _, _, _, _, _, _, _, _, _, _, _, _, _, _, _, _, _, _, _, _, _, _, _, _, _, _, _, _, rfl⟩

/-- Bytes behind a slice's one cell. -/
def BAt (R : RO) (cs : List Value) (xs : List Int) : Prop := ∃ a n c, cs = [.slice a n c] ∧ RI R .u8 a n xs ∧ n ≤ maxLen ∧ n ≤ c

structure GIn where
  hash : List Int
  idx : Int
  script : List Int
  wit : List (List Int)
  seq : Int

structure GOut where
  value : Int
  pk : List Int

structure GTx where
  ver : Int
  ins : List GIn
  outs : List GOut
  lock : Int

def InAt (R : RO) (cs : List Value) (g : GIn) : Prop := ∃ a n c a2 n2 c2, cs = ints .u8 g.hash ++ [.int .u32 g.idx, .slice a n c, .slice a2 n2 c2, .int .u32 g.seq] ∧ g.hash.length = 32 ∧
  (∀ x ∈ g.hash, (Lit.int .u8 x).wf = true) ∧ (Lit.int .u32 g.idx).wf = true ∧ (Lit.int .u32 g.seq).wf = true ∧ RI R .u8 a n g.script ∧ (n ≤ maxLen ∧ n ≤ c) ∧ LAt R 1 BAt a2 n2 c2 g.wit

def OutAt (R : RO) (cs : List Value) (g : GOut) : Prop := ∃ a n c, cs = [.int .i64 g.value, .slice a n c] ∧ (Lit.int .i64 g.value).wf = true ∧ RI R .u8 a n g.pk ∧ n ≤ maxLen ∧ n ≤ c

/-- A transaction's four cells; how the inputs and the outputs lie. -/
def TxL (si so : Nat) (pi : RO → List Value → GIn → Prop) (po : RO → List Value → GOut → Prop) (R : RO) (cs : List Value) (g : GTx) : Prop :=
  ∃ a n c a2 n2 c2, cs = [.int .i32 g.ver, .slice a n c, .slice a2 n2 c2, .int .u32 g.lock] ∧ (Lit.int .i32 g.ver).wf = true ∧ (Lit.int .u32 g.lock).wf = true ∧ LAt R si pi a n c g.ins ∧ LAt R so po a2 n2 c2 g.outs

/-- A transaction as plain data. -/
def TxAt : RO → List Value → GTx → Prop := TxL 36 2 InAt OutAt
/-- A message of a transaction. -/
def MsgAt : RO → List Value → GTx → Prop := TxL 1 1 (PAt 36 InAt) (PAt 2 OutAt)

theorem BAt.le {R R' : RO} (hl : R.le R') (cs : List Value) (x : List Int) (h : BAt R cs x) : BAt R' cs x :=
  let ⟨a, n, c, h1, h2, h3⟩ := h
  ⟨a, n, c, h1, h2.le hl, h3⟩

theorem InAt.le {R R' : RO} (hl : R.le R') (cs : List Value) (x : GIn) (h : InAt R cs x) : InAt R' cs x :=
  let ⟨a, n, c, a2, n2, c2, h1, h2, h3, h4, h5, h6, h7, h8⟩ := h
  ⟨a, n, c, a2, n2, c2, h1, h2, h3, h4, h5, h6.le hl, h7, h8.le hl (BAt.le hl)⟩

theorem OutAt.le {R R' : RO} (hl : R.le R') (cs : List Value) (x : GOut) (h : OutAt R cs x) : OutAt R' cs x :=
  let ⟨a, n, c, h1, h2, h3, h4⟩ := h
  ⟨a, n, c, h1, h2, h3.le hl, h4⟩

theorem TxAt.le {R R' : RO} (hl : R.le R') (cs : List Value) (x : GTx) (h : TxAt R cs x) : TxAt R' cs x :=
  let ⟨a, n, c, a2, n2, c2, h1, h2, h3, h4, h5⟩ := h
  ⟨a, n, c, a2, n2, c2, h1, h2, h3, h4.le hl (InAt.le hl), h5.le hl (OutAt.le hl)⟩

theorem MsgAt.le {R R' : RO} (hl : R.le R') (cs : List Value) (x : GTx) (h : MsgAt R cs x) : MsgAt R' cs x :=
  let ⟨a, n, c, a2, n2, c2, h1, h2, h3, h4, h5⟩ := h
  ⟨a, n, c, a2, n2, c2, h1, h2, h3, h4.le hl (fun _ _ h => h.le hl (InAt.le hl)), h5.le hl (fun _ _ h => h.le hl (OutAt.le hl))⟩

end Go.Proofs.Ytnlpjppjhikooaa.Tx
