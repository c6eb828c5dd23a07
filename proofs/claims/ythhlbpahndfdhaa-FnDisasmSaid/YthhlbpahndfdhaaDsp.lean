/- Disassembly: plain. -/
import Derived.Test.YthhlbpahndfdhaaDsn
import Derived.Test.YthhlbpahndfdhaaTka
import Derived.Test.YthhlbpahndfdhaaDsa
import Derived.KernelRfl
set_option linter.unusedSimpArgs false
set_option linter.unusedVariables false
namespace Go.Proofs.Ythhlbpahndfdhaa.Ds
open Go Go.Se Go.Proofs.Ythhlbpahndfdhaa.Tk

/-- A digit of sixteen. -/
def hx (k : Nat) : Int := if k < 10 then 48 + (k : Int) else 87 + (k : Int)

def hexL : List Int → List Int
  | [] => []
  | b :: r => hx (b.toNat / 16) :: hx (b.toNat % 16) :: hexL r

theorem hexL_snoc (l : List Int) (b : Int) : hexL (l ++ [b]) = hexL l ++ [hx (b.toNat / 16), hx (b.toNat % 16)] := by
  induction l with
  | nil => rfl
  | cons x r ih => rw [List.cons_append, hexL, hexL, ih]; rfl

theorem hexL_len (l : List Int) : (hexL l).length = 2 * l.length := by
  induction l with
  | nil => rfl
  | cons x r ih => rw [hexL, List.length_cons, List.length_cons, List.length_cons, ih]; omega

theorem hx_wf {k : Nat} (h : k < 16) : 0 ≤ hx k ∧ hx k ≤ 255 := by unfold hx; split <;> omega

theorem hexL_wf (l : List Int) (hl : ∀ x ∈ l, x ≤ 255) : ∀ x ∈ hexL l, 0 ≤ x ∧ x ≤ 255 := by
  induction l with
  | nil => intro x hx; cases hx
  | cons b r ih =>
    intro x hm
    have hb := hl b (List.mem_cons_self ..)
    rw [hexL, List.mem_cons, List.mem_cons] at hm
    rcases hm with rfl | rfl | hm
    · exact hx_wf (by omega)
    · exact hx_wf (by omega)
    · exact ih (fun x hx => hl x (List.mem_cons_of_mem _ hx)) x hm

/-- A number below 1000 in digits of ten. -/
def decL (n : Nat) : List Int :=
  if n < 10 then [48 + (n : Int)] else if n < 100 then [48 + ((n / 10 : Nat) : Int), 48 + ((n % 10 : Nat) : Int)] else [48 + ((n / 100 : Nat) : Int), 48 + ((n / 10 % 10 : Nat) : Int), 48 + ((n % 10 : Nat) : Int)]

/-- What a token stands for. -/
def piece (op : Int) (d : List Int) : List Int := if op = 0 then decL 0 else if 81 ≤ op ∧ op ≤ 96 then decL (op - 80).toNat else if op = 79 then [45, 49] else if op ≤ 78 then hexL d else nmL op

def J : List Tok → List Int
  | [] => []
  | t :: r => piece t.op t.data ++ r.flatMap fun t => 32 :: piece t.op t.data

theorem J_snoc (l : List Tok) (t : Tok) (h : l ≠ []) : J (l ++ [t]) = J l ++ 32 :: piece t.op t.data := by
  cases l with
  | nil => exact absurd rfl h
  | cons x r => simp [J]

theorem J_one (t : Tok) : J [t] = piece t.op t.data := by simp [J]

def errL : List Int := [91, 101, 114, 114, 111, 114, 93]

/-- A script on one line. -/
def disL (l : List Tok) (whole : Bool) : List Int := if whole = true then J l else if l = [] then errL else J l ++ 32 :: errL

/-- Names that one line has numbers for. -/
def repl (x : List Int) : Option (List Int) := if x = [79, 80, 95, 49, 78, 69, 71, 65, 84, 69] then some [45, 49] else if x = [79, 80, 95, 48] then some [48] else if x = [79, 80, 95, 49] then some [49] else if x = [79, 80, 95, 50] then some [50] else if x = [79, 80, 95, 51] then some [51] else if x = [79, 80, 95, 52] then some [52] else if x = [79, 80, 95, 53] then some [53] else if x = [79, 80, 95, 54] then some [54] else if x = [79, 80, 95, 55] then some [55] else if x = [79, 80, 95, 56] then some [56] else if x = [79, 80, 95, 57] then some [57] else if x = [79, 80, 95, 49, 48] then some [49, 48] else if x = [79, 80, 95, 49, 49] then some [49, 49] else if x = [79, 80, 95, 49, 50] then some [49, 50] else if x = [79, 80, 95, 49, 51] then some [49, 51] else if x = [79, 80, 95, 49, 52] then some [49, 52] else if x = [79, 80, 95, 49, 53] then some [49, 53] else if x = [79, 80, 95, 49, 54] then some [49, 54] else none

/-- The words of the reference's table. -/
def namesL : List Int := [78, 79, 80, 32, 86, 69, 82, 32, 73, 70, 32, 78, 79, 84, 73, 70, 32, 86, 69, 82, 73, 70, 32, 86, 69, 82, 78, 79, 84, 73, 70, 32, 69, 76, 83, 69, 32, 69, 78, 68, 73, 70, 32, 86, 69, 82, 73, 70, 89, 32, 82, 69, 84, 85, 82, 78, 32, 84, 79, 65, 76, 84, 83, 84, 65, 67, 75, 32, 70, 82, 79, 77, 65, 76, 84, 83, 84, 65, 67, 75, 32, 50, 68, 82, 79, 80, 32, 50, 68, 85, 80, 32, 51, 68, 85, 80, 32, 50, 79, 86, 69, 82, 32, 50, 82, 79, 84, 32, 50, 83, 87, 65, 80, 32, 73, 70, 68, 85, 80, 32, 68, 69, 80, 84, 72, 32, 68, 82, 79, 80, 32, 68, 85, 80, 32, 78, 73, 80, 32, 79, 86, 69, 82, 32, 80, 73, 67, 75, 32, 82, 79, 76, 76, 32, 82, 79, 84, 32, 83, 87, 65, 80, 32, 84, 85, 67, 75, 32, 67, 65, 84, 32, 83, 85, 66, 83, 84, 82, 32, 76, 69, 70, 84, 32, 82, 73, 71, 72, 84, 32, 83, 73, 90, 69, 32, 73, 78, 86, 69, 82, 84, 32, 65, 78, 68, 32, 79, 82, 32, 88, 79, 82, 32, 69, 81, 85, 65, 76, 32, 69, 81, 85, 65, 76, 86, 69, 82, 73, 70, 89, 32, 82, 69, 83, 69, 82, 86, 69, 68, 49, 32, 82, 69, 83, 69, 82, 86, 69, 68, 50, 32, 49, 65, 68, 68, 32, 49, 83, 85, 66, 32, 50, 77, 85, 76, 32, 50, 68, 73, 86, 32, 78, 69, 71, 65, 84, 69, 32, 65, 66, 83, 32, 78, 79, 84, 32, 48, 78, 79, 84, 69, 81, 85, 65, 76, 32, 65, 68, 68, 32, 83, 85, 66, 32, 77, 85, 76, 32, 68, 73, 86, 32, 77, 79, 68, 32, 76, 83, 72, 73, 70, 84, 32, 82, 83, 72, 73, 70, 84, 32, 66, 79, 79, 76, 65, 78, 68, 32, 66, 79, 79, 76, 79, 82, 32, 78, 85, 77, 69, 81, 85, 65, 76, 32, 78, 85, 77, 69, 81, 85, 65, 76, 86, 69, 82, 73, 70, 89, 32, 78, 85, 77, 78, 79, 84, 69, 81, 85, 65, 76, 32, 76, 69, 83, 83, 84, 72, 65, 78, 32, 71, 82, 69, 65, 84, 69, 82, 84, 72, 65, 78, 32, 76, 69, 83, 83, 84, 72, 65, 78, 79, 82, 69, 81, 85, 65, 76, 32, 71, 82, 69, 65, 84, 69, 82, 84, 72, 65, 78, 79, 82, 69, 81, 85, 65, 76, 32, 77, 73, 78, 32, 77, 65, 88, 32, 87, 73, 84, 72, 73, 78, 32, 82, 73, 80, 69, 77, 68, 49, 54, 48, 32, 83, 72, 65, 49, 32, 83, 72, 65, 50, 53, 54, 32, 72, 65, 83, 72, 49, 54, 48, 32, 72, 65, 83, 72, 50, 53, 54, 32, 67, 79, 68, 69, 83, 69, 80, 65, 82, 65, 84, 79, 82, 32, 67, 72, 69, 67, 75, 83, 73, 71, 32, 67, 72, 69, 67, 75, 83, 73, 71, 86, 69, 82, 73, 70, 89, 32, 67, 72, 69, 67, 75, 77, 85, 76, 84, 73, 83, 73, 71, 32, 67, 72, 69, 67, 75, 77, 85, 76, 84, 73, 83, 73, 71, 86, 69, 82, 73, 70, 89, 32, 78, 79, 80, 49, 32, 67, 72, 69, 67, 75, 76, 79, 67, 75, 84, 73, 77, 69, 86, 69, 82, 73, 70, 89, 32, 67, 72, 69, 67, 75, 83, 69, 81, 85, 69, 78, 67, 69, 86, 69, 82, 73, 70, 89, 32, 78, 79, 80, 52, 32, 78, 79, 80, 53, 32, 78, 79, 80, 54, 32, 78, 79, 80, 55, 32, 78, 79, 80, 56, 32, 78, 79, 80, 57, 32, 78, 79, 80, 49, 48, 32, 67, 72, 69, 67, 75, 83, 73, 71, 65, 68, 68, 32]

/-- The word of a text, each word ending with a blank. -/
def partL : List Int → List Int → Nat → List Int
  | [], _, _ => []
  | c :: r, acc, n => if c = 32 then (match n with
    | 0 => acc
    | n + 1 => partL r [] n) else partL r (acc ++ [c]) n

def opS : List Int := [79, 80, 95]
def unS : List Int := [79, 80, 95, 85, 78, 75, 78, 79, 87, 78]

/-- The name, as the reference makes it. -/
def nameS (k : Nat) : List Int := if k = 80 then [79, 80, 95, 82, 69, 83, 69, 82, 86, 69, 68] else if k ≤ 186 then opS ++ partL namesL [] (k - 97) else if k = 250 then [79, 80, 95, 83, 77, 65, 76, 76, 73, 78, 84, 69, 71, 69, 82] else if k = 251 then [79, 80, 95, 80, 85, 66, 75, 69, 89, 83] else if k = 253 then [79, 80, 95, 80, 85, 66, 75, 69, 89, 72, 65, 83, 72] else if k = 254 then [79, 80, 95, 80, 85, 66, 75, 69, 89] else if k = 255 then [79, 80, 95, 73, 78, 86, 65, 76, 73, 68, 79, 80, 67, 79, 68, 69] else unS ++ decL k

theorem sb_list {l : List Nat} (h : ∀ x ∈ l, x < 256) : SB ⟨(l.map UInt8.ofNat).toArray⟩ (l.map fun k : Nat => (k : Int)) := by
  unfold SB Go.byteCells ints
  simp only [List.map_map]
  apply List.map_congr_left
  intro x hx
  have := h x hx
  simp only [Function.comp]
  congr 1
  rw [UInt8.toNat_ofNat']
  omega

def okk (k : Nat) : Bool := (decide (1 ≤ k ∧ k ≤ 78) || decide ((repl (nmL k)).getD (nmL k) = piece k [])) && (decide (k < 97 ∧ k ≠ 80) || decide (nameS k = nmL k)) && (nmN k).all (fun x => decide (x < 256)) && decide ((nmL k).length ≤ 40)

set_option maxRecDepth 100000 in
theorem okAll : (List.range 256).all okk = true := by kernel_rfl

theorem okOne {op : Int} (h0 : 0 ≤ op) (h1 : op ≤ 255) : okk op.toNat = true := List.all_eq_true.1 okAll _ (List.mem_range.2 (by omega))

theorem cast_op {op : Int} (h0 : 0 ≤ op) : ((op.toNat : Nat) : Int) = op := Int.toNat_of_nonneg h0

theorem nm_sb {op : Int} (h0 : 0 ≤ op) (h1 : op ≤ 255) : SB (nmB op) (nmL op) := by
  have h := okOne h0 h1
  unfold okk at h
  simp only [Bool.and_eq_true, decide_eq_true_eq, cast_op h0] at h
  exact sb_list fun x hx => by simpa using List.all_eq_true.1 h.1.2 x hx

theorem nm_len {op : Int} (h0 : 0 ≤ op) (h1 : op ≤ 255) : (nmL op).length ≤ 40 := by
  have h := okOne h0 h1
  unfold okk at h
  simp only [Bool.and_eq_true, decide_eq_true_eq, cast_op h0] at h
  exact h.2

theorem piece_repl {op : Int} (d : List Int) (h0 : 0 ≤ op) (h1 : op ≤ 255) (h : ¬ (1 ≤ op ∧ op ≤ 78)) : (repl (nmL op)).getD (nmL op) = piece op d := by
  have k := okOne h0 h1
  unfold okk at k
  simp only [Bool.and_eq_true, Bool.or_eq_true, decide_eq_true_eq, cast_op h0] at k
  rcases k.1.1.1 with e | e
  · exact absurd (by omega) h
  · rw [e]
    unfold piece
    split
    · rfl
    · split
      · rfl
      · split
        · rfl
        · rw [if_neg (by omega), if_neg (by omega)]

theorem name_nm {op : Int} (h0 : 0 ≤ op) (h1 : op ≤ 255) (h : op = 80 ∨ 97 ≤ op) : nameS op.toNat = nmL op := by
  have k := okOne h0 h1
  unfold okk at k
  simp only [Bool.and_eq_true, Bool.or_eq_true, decide_eq_true_eq, cast_op h0] at k
  rcases k.1.1.2 with e | e
  · exact absurd e (by omega)
  · exact e
end Go.Proofs.Ythhlbpahndfdhaa.Ds
