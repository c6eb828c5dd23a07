/- Scripts cut into tokens: plain. -/
import Derived.Test.YthhlbpahndfdhaaSz
set_option linter.unusedSimpArgs false
set_option linter.unusedVariables false
namespace Go.Proofs.Ythhlbpahndfdhaa.Tk
open Go Go.Se

structure Tok where
  op : Int
  data : List Int
  pos : Nat

/-- Bytes as a number, the least first. -/
def wordN : List Int → Int
  | [] => 0
  | x :: r => x + 256 * wordN r

def width (op : Int) : Nat := if op = 76 then 1 else if op = 77 then 2 else 4

/-- The first token of bytes: what it pushes, how long it is. -/
def stepT : List Int → Option (List Int × Nat)
  | [] => none
  | op :: rest =>
    if 1 ≤ op ∧ op ≤ 75 then (if rest.length < op.toNat then none else some (rest.take op.toNat, 1 + op.toNat))
    else if 76 ≤ op ∧ op ≤ 78 then
      (if rest.length < width op then none
       else if rest.length - width op < (wordN (rest.take (width op))).toNat then none
       else some ((rest.drop (width op)).take (wordN (rest.take (width op))).toNat, 1 + width op + (wordN (rest.take (width op))).toNat))
    else some ([], 1)

theorem stepT_le {s d : List Int} {k : Nat} (h : stepT s = some (d, k)) : 1 ≤ k ∧ k ≤ s.length ∧ d.length < k := by
  match s with
  | [] => simp [stepT] at h
  | op :: rest =>
    simp only [stepT] at h
    split at h
    · split at h
      · cases h
      · simp only [Option.some.injEq, Prod.mk.injEq] at h
        obtain ⟨rfl, rfl⟩ := h
        simp
        omega
    split at h
    · split at h
      · cases h
      split at h
      · cases h
      · simp only [Option.some.injEq, Prod.mk.injEq] at h
        obtain ⟨rfl, rfl⟩ := h
        simp
        omega
    · simp only [Option.some.injEq, Prod.mk.injEq] at h
      obtain ⟨rfl, rfl⟩ := h
      simp

/-- Tokens that were cut, up to a place. -/
inductive Toks (xs : List Int) : List Tok → Nat → Prop
  | nil : Toks xs [] 0
  | snoc {l : List Tok} {p : Nat} {op : Int} {d : List Int} {k : Nat} (h : Toks xs l p) (ho : xs[p]? = some op) (hs : stepT (xs.drop p) = some (d, k)) : Toks xs (l ++ [⟨op, d, p⟩]) (p + k)

def nextT (xs : List Int) (s : List Tok × Nat) : List Tok × Nat :=
  match xs[s.2]?, stepT (xs.drop s.2) with
  | some op, some (d, k) => (s.1 ++ [⟨op, d, s.2⟩], s.2 + k)
  | _, _ => s

def runT (xs : List Int) : Nat → List Tok × Nat
  | 0 => ([], 0)
  | n + 1 => nextT xs (runT xs n)

theorem Toks.run {xs : List Int} {l : List Tok} {p : Nat} (h : Toks xs l p) : ∃ n, runT xs n = (l, p) := by
  induction h with
  | nil => exact ⟨0, rfl⟩
  | snoc h ho hs ih =>
    obtain ⟨n, hn⟩ := ih
    refine ⟨n + 1, ?_⟩
    rw [runT, hn, nextT]
    simp only [ho, hs]

/-- Nothing more can be cut. -/
def Stuck (xs : List Int) (p : Nat) : Prop := xs[p]? = none ∨ stepT (xs.drop p) = none

theorem run_stuck {xs : List Int} {n : Nat} {l : List Tok} {p : Nat} (h : runT xs n = (l, p)) (hs : Stuck xs p) : ∀ m, runT xs (n + m) = (l, p)
  | 0 => h
  | m + 1 => by
    rw [← Nat.add_assoc, runT, run_stuck h hs m, nextT]
    rcases hs with hs | hs
    · simp only [hs]
    · simp only [hs]
      split <;> simp_all

theorem Toks.one {xs : List Int} {l l' : List Tok} {p p' : Nat} (h : Toks xs l p) (hs : Stuck xs p) (h' : Toks xs l' p') (hs' : Stuck xs p') : l = l' ∧ p = p' := by
  obtain ⟨n, hn⟩ := h.run
  obtain ⟨m, hm⟩ := h'.run
  have h1 := run_stuck hn hs m
  have h2 := run_stuck hm hs' n
  rw [Nat.add_comm, h2] at h1
  simp only [Prod.mk.injEq] at h1
  exact ⟨h1.1.symm, h1.2.symm⟩

theorem Toks.le {xs : List Int} {l : List Tok} {p : Nat} (h : Toks xs l p) : p ≤ xs.length ∧ l.length ≤ p := by
  induction h with
  | nil => simp
  | snoc h ho hs ih =>
    have := stepT_le hs
    simp at this ⊢
    omega

/-- A script is whole: it is cut to its end. -/
theorem stuck_end {xs : List Int} {p : Nat} (h : p = xs.length) : Stuck xs p := .inl (by rw [List.getElem?_eq_none (by omega)])
end Go.Proofs.Ythhlbpahndfdhaa.Tk
