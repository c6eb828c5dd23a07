/- Texts of bech32: plain. -/
import Derived.Test.YtfkdaelfehibcaaDoorDsa
set_option linter.unusedSimpArgs false
set_option linter.unusedVariables false
namespace Go.Proofs.YtfkdaelfehibcaaDoor.Be
open Go Go.Se

/-- What the sum is made with. -/
def gn (k : Nat) : Nat := match k with
  | 0 => 996825010
  | 1 => 642813549
  | 2 => 513874426
  | 3 => 1027748829
  | _ => 705979059

/-- One step of the sum: the first k bits of what is shifted out. -/
def pmK (top : Nat) : Nat → Nat → Nat
  | 0, c => c
  | k + 1, c => if top / 2 ^ k % 2 = 1 then pmK top k c ^^^ gn k else pmK top k c

def pmB (c v : Nat) : Nat := (c % 33554432) * 32 ^^^ v
def pmR (c v : Nat) : Nat := pmK (c / 33554432) 5 (pmB c v)
def pmL (l : List Nat) (c : Nat) : Nat := l.foldl pmR c

theorem gn_lt (k : Nat) : gn k < 2 ^ 30 := by
  unfold gn
  split <;> decide

theorem pmB_lt {c v : Nat} (h : v < 2 ^ 30) : pmB c v < 2 ^ 30 := Nat.xor_lt_two_pow (by omega) h

theorem pmK_lt (top k : Nat) {c : Nat} (h : c < 2 ^ 30) : pmK top k c < 2 ^ 30 := by
  induction k with
  | zero => exact h
  | succ k ih =>
    rw [pmK]
    split
    · exact Nat.xor_lt_two_pow ih (gn_lt k)
    · exact ih

theorem pmR_lt {c v : Nat} (h : v < 2 ^ 30) : pmR c v < 2 ^ 30 := pmK_lt _ _ (pmB_lt h)

theorem pmL_app (a b : List Nat) (c : Nat) : pmL (a ++ b) c = pmL b (pmL a c) := List.foldl_append

theorem pmL_snoc (a : List Nat) (v c : Nat) : pmL (a ++ [v]) c = pmR (pmL a c) v := by rw [pmL_app]; rfl

theorem pmL_lt {l : List Nat} (h : ∀ v ∈ l, v < 2 ^ 30) {c : Nat} (hc : c < 2 ^ 30) : pmL l c < 2 ^ 30 := by
  induction l generalizing c with
  | nil => exact hc
  | cons x r ih => exact ih (fun v hv => h v (List.mem_cons_of_mem _ hv)) (pmR_lt (h x (List.mem_cons_self ..)))

/-- Capital letters, small ones; a small letter for a capital one. -/
def cp (x : Int) : Bool := decide (65 ≤ x ∧ x ≤ 90)
def sm (x : Int) : Bool := decide (97 ≤ x ∧ x ≤ 122)
def low (x : Int) : Int := if cp x then x + 32 else x

/-- The first place of a byte; -1: nowhere. -/
def plc : List Int → Int → Int
  | [], _ => -1
  | x :: r, b => if x = b then 0 else if plc r b < 0 then -1 else plc r b + 1

theorem plc_bd (l : List Int) (b : Int) : -1 ≤ plc l b ∧ plc l b < (l.length : Int) := by
  induction l with
  | nil => exact ⟨Int.le_refl (-1), (by decide : (-1 : Int) < 0)⟩
  | cons x r ih =>
    rw [plc, List.length_cons]
    split
    · omega
    · split <;> omega

/-- The last place of a byte; -1: nowhere. -/
def lst (b : Int) : List Int → Int
  | [] => -1
  | x :: r => if 0 ≤ lst b r then lst b r + 1 else if x = b then 0 else -1

def cset : List Int := [113, 112, 122, 114, 121, 57, 120, 56, 103, 102, 50, 116, 118, 100, 119, 48, 115, 51, 106, 110, 53, 52, 107, 104, 99, 101, 54, 109, 117, 97, 55, 108]

/-- The readable part as numbers. -/
def xpd (h : List Int) : List Nat := (h.map fun x => x.toNat / 32) ++ 0 :: h.map fun x => x.toNat % 32
end Go.Proofs.YtfkdaelfehibcaaDoor.Be
