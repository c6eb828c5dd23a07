/- The size of a transaction, roughly. -/
import Derived.Test.YtnlpjppjhikooaaHxd
set_option linter.unusedSimpArgs false
set_option linter.unusedVariables false
namespace Go.Proofs.Ytnlpjppjhikooaa.Tx
open Go Go.Se Go.Proofs Go.Proofs.Ytnlpjppjhikooaa.Tytx

theorem mix {P : Program} (hP : P = Try.prog) : P.follows .mixedOrders = true := by subst hP; rfl

def capn (m : Nat) : Nat := if m ≤ 100000 then m else 100001

theorem capn_le (m : Nat) : capn m ≤ 100001 := by unfold capn; split <;> omega

def wsz (w : List Int) : Nat := 9 + w.length
def isz (g : GIn) : Nat := 50 + g.script.length + (g.wit.map wsz).sum
def osz (g : GOut) : Nat := 17 + g.pk.length
def tsz (g : GTx) : Nat := 10 + (g.ins.map isz).sum + (g.outs.map osz).sum

theorem sum_succ {α : Type} (f : α → Nat) {l : List α} {i : Nat} {x : α} (h : l[i]? = some x) : ((l.take (i + 1)).map f).sum = ((l.take i).map f).sum + f x := by
  rw [List.take_add_one, h]
  simp

theorem sum_le {α : Type} (f : α → Nat) (l : List α) (i : Nat) : ((l.take i).map f).sum ≤ (l.map f).sum := by
  conv => rhs; rw [← List.take_append_drop i l]
  rw [List.map_append, List.sum_append]
  omega

theorem sum_all {α : Type} (f : α → Nat) {l : List α} {i : Nat} (h : l.length ≤ i) : ((l.take i).map f).sum = (l.map f).sum := by rw [List.take_of_length_le h]

theorem len_sum {α : Type} (f : α → Nat) (l : List α) (h : ∀ x ∈ l, 1 ≤ f x) : l.length ≤ (l.map f).sum := by
  induction l with
  | nil => simp
  | cons x l ih =>
    have := h x (by simp)
    have := ih fun y hy => h y (by simp [hy])
    simp only [List.map_cons, List.sum_cons, List.length_cons]
    omega

theorem mem_sum {α : Type} (f : α → Nat) {l : List α} {x : α} (h : x ∈ l) : f x ≤ (l.map f).sum := by
  induction l with
  | nil => cases h
  | cons y l ih =>
    simp only [List.map_cons, List.sum_cons]
    rcases List.mem_cons.1 h with rfl | h
    · omega
    · have := ih h; omega

end Go.Proofs.Ytnlpjppjhikooaa.Tx
