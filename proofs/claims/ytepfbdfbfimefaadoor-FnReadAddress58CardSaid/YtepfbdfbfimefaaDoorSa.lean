/- The evaluator's words: first laws. -/
import Derived.Test.YtepfbdfbfimefaaDoorSe
set_option linter.unusedSimpArgs false
set_option linter.unusedVariables false
namespace Go.Se
open Go

theorem valL_map (ρ : Nat → Nat) : ∀ xs : List SV, valL ρ xs = xs.map (val ρ)
  | [] => rfl
  | x :: xs => by simp [valL, valL_map ρ xs]

theorem labL_iff (n : Nat) : ∀ xs : List SV, labL n xs ↔ ∀ x ∈ xs, lab n x
  | [] => by simp [labL]
  | x :: xs => by simp [labL, labL_iff n xs]

mutual
theorem val_agree {ρ ρ' : Nat → Nat} {n : Nat} (h : ∀ l, l < n → ρ' l = ρ l) : ∀ x : SV, lab n x → val ρ' x = val ρ x
  | .v _, _ => rfl
  | .p l _, hl => by simp [val, h l hl]
  | .se l _ _ _, hl => by simp [val, h l hl]
  | .ag xs, hl => by simp [val, valL_agree h xs hl]
  | .tu xs, hl => by simp [val, valL_agree h xs hl]
  | .ifc _ x, hl => by simp [val, val_agree h x hl]
  | .fn _ xs ys, hl => by simp [val, valL_agree h xs hl.1, valL_agree h ys hl.2]
theorem valL_agree {ρ ρ' : Nat → Nat} {n : Nat} (h : ∀ l, l < n → ρ' l = ρ l) : ∀ xs : List SV, labL n xs → valL ρ' xs = valL ρ xs
  | [], _ => rfl
  | x :: xs, hl => by simp [valL, val_agree h x hl.1, valL_agree h xs hl.2]
end

mutual
theorem lab_mono {n m : Nat} (h : n ≤ m) : ∀ x : SV, lab n x → lab m x
  | .v _, _ => trivial
  | .p _ _, hl => Nat.lt_of_lt_of_le hl h
  | .se _ _ _ _, hl => Nat.lt_of_lt_of_le hl h
  | .ag xs, hl => labL_mono h xs hl
  | .tu xs, hl => labL_mono h xs hl
  | .ifc _ x, hl => lab_mono h x hl
  | .fn _ xs ys, hl => ⟨labL_mono h xs hl.1, labL_mono h ys hl.2⟩
theorem labL_mono {n m : Nat} (h : n ≤ m) : ∀ xs : List SV, labL n xs → labL m xs
  | [], _ => trivial
  | x :: xs, hl => ⟨lab_mono h x hl.1, labL_mono h xs hl.2⟩
end

theorem rawL_some {ρ : Nat → Nat} : ∀ {xs : List SV} {l : List Value}, rawL xs = some l → valL ρ xs = l
  | [], l, h => by simp [rawL] at h; simp [valL, h]
  | .v x :: xs, l, h => by
    simp only [rawL] at h
    cases hr : rawL xs with
    | none => simp [hr] at h
    | some l' => simp [hr] at h; simp [valL, val, rawL_some hr, h]
  | .p _ _ :: _, _, h => by simp [rawL] at h
  | .se _ _ _ _ :: _, _, h => by simp [rawL] at h
  | .ag _ :: _, _, h => by simp [rawL] at h
  | .tu _ :: _, _, h => by simp [rawL] at h
  | .ifc _ _ :: _, _, h => by simp [rawL] at h
  | .fn _ _ _ :: _, _, h => by simp [rawL] at h

theorem val_mkFn (ρ : Nat → Nat) (f : Fn) (xs ys : List SV) : val ρ (mkFn f xs ys) = .func f (valL ρ xs).toArray (valL ρ ys).toArray := by
  unfold mkFn
  split
  · rename_i a b ha hb
    simp [val, rawL_some ha, rawL_some hb]
  · rfl

theorem lab_mkFn {n : Nat} {f : Fn} {xs ys : List SV} (h : labL n xs) (k : labL n ys) : lab n (mkFn f xs ys) := by
  unfold mkFn
  split
  · trivial
  · exact ⟨h, k⟩

theorem val_mkAg (ρ : Nat → Nat) (xs : List SV) : val ρ (mkAg xs) = .agg (valL ρ xs).toArray := by
  unfold mkAg
  cases h : rawL xs with
  | none => simp [val]
  | some l => simp [val, rawL_some h]

theorem lab_mkAg {n : Nat} {xs : List SV} (h : labL n xs) : lab n (mkAg xs) := by
  unfold mkAg
  cases rawL xs with
  | none => exact h
  | some l => trivial

theorem cells_cellsOf (ρ : Nat → Nat) (x : SV) : (val ρ x).cells = (valL ρ (cellsOf x)).toArray := by
  cases x with
  | v y => cases y <;> simp [cellsOf, val, valL, Value.cells, valL_map, Function.comp_def]
  | ag xs => simp [cellsOf, val, Value.cells]
  | p l o => simp [cellsOf, val, valL, Value.cells]
  | se l o a b => simp [cellsOf, val, valL, Value.cells]
  | tu xs => simp [cellsOf, val, valL, Value.cells]
  | ifc t x => simp [cellsOf, val, valL, Value.cells]
  | fn f xs ys => simp [cellsOf, val, valL, Value.cells]

theorem lab_cellsOf {n : Nat} {x : SV} (h : lab n x) : labL n (cellsOf x) := by
  cases x with
  | v y => cases y <;> simp [cellsOf, labL, lab, labL_iff]
  | ag xs => exact h
  | p l o => exact ⟨h, trivial⟩
  | se l o a b => exact ⟨h, trivial⟩
  | tu xs => exact ⟨h, trivial⟩
  | ifc t x => exact ⟨h, trivial⟩
  | fn f xs ys => exact ⟨h, trivial⟩

/-! ### memory -/
theorem Keep.refl (S : Nat → Prop) (w : World) : Keep S w w := ⟨rfl, rfl, rfl, Nat.le_refl _, fun _ _ _ => rfl⟩

theorem Keep.trans {S S' : Nat → Prop} {a b c : World} (h : Keep S a b) (k : Keep S' b c) (hs : ∀ x, x < a.heap.size → S' x → S x) : Keep S a c :=
  ⟨k.os.trans h.os, k.tape.trans h.tape, k.output.trans h.output, Nat.le_trans h.size k.size,
   fun i hi hn => (k.block i (Nat.lt_of_lt_of_le hi h.size) fun hx => hn (hs i hi hx)).trans (h.block i hi hn)⟩

theorem cell_of {w : World} {b : Nat} {c : Array Value} {T : Nat} {z : Nat × Nat} (h : w.heap[b]? = some (.cells c T z)) (o : Nat) :
    w.cell? ⟨b, o, none⟩ = c[o]? := by simp [World.cell?, h]

theorem run_load_cell {P : Program} {w : World} {a : Addr} {v : Value} (h : w.cell? a = some v) : (load a).run P w = .ok v w := by
  simp [load, Sem.run, h]

end Go.Se
