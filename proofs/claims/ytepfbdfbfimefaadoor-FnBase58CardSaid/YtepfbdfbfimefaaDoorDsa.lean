/- Strings as lists of bytes. -/
import Derived.Test.YtepfbdfbfimefaaDoorSu
set_option linter.unusedSimpArgs false
set_option linter.unusedVariables false
namespace Go.Se
open Go

/-- A string's bytes. -/
def SB (b : ByteArray) (xs : List Int) : Prop := byteCells b = ints .u8 xs

theorem SB.size {b : ByteArray} {xs : List Int} (h : SB b xs) : b.size = xs.length := by
  have := congrArg List.length h
  rw [ints_len] at this
  simpa [byteCells] using this

theorem SB.app {a b : ByteArray} {xs ys : List Int} (h : SB a xs) (k : SB b ys) : SB (a ++ b) (xs ++ ys) := by
  unfold SB at *
  have e : byteCells (a ++ b) = byteCells a ++ byteCells b := by
    unfold byteCells
    rw [← List.map_append]
    congr 1
  rw [e, h, k]
  simp [ints]

theorem SB.ext {b : ByteArray} {xs : List Int} (h : SB b xs) (l m : Nat) : SB (b.extract l m) ((xs.drop l).take (m - l)) := by
  unfold SB at *
  have e : byteCells (b.extract l m) = ((byteCells b).drop l).take (m - l) := by
    unfold byteCells
    rw [← List.map_drop, ← List.map_take]
    congr 1
    rw [ByteArray.data_extract, Array.toList_extract]
  rw [e, h]
  simp [ints, List.map_drop, List.map_take]

theorem SB.inj {b : ByteArray} {xs ys : List Int} (h : SB b xs) (k : SB b ys) : xs = ys := ints_inj (h.symm.trans k)

section
variable {bin : BinOp → IntKind → Int → Int → Int} {cmp : BinOp → Int → Int → Bool} {cnv : IntKind → Int → Int} {neg : IntKind → Int → Int} {com : IntKind → Int → Int} {bnot : Bool → Bool} {beq : Bool → Bool → Bool} {ofN : Nat → Int} {toN : Int → Nat} {at_ : Nat → Nat → Nat → Nat} {sub_ : Nat → Nat → Nat} {scmp : BinOp → ByteArray → ByteArray → Bool} {cat : ByteArray → ByteArray → ByteArray} {sget : ByteArray → Int → Int} {ssz : ByteArray → Nat} {ssub : ByteArray → Nat → Nat → ByteArray} {elem : Option Addr → Int → Nat → Addr} {fld_ : Addr → Nat → Addr}
  (hA : (⟨bin, cmp, cnv, neg, com, bnot, beq, ofN, toN, at_, sub_, scmp, cat, sget, ssz, ssub, elem, fld_⟩ : Ar) = Ar.real)
include hA

theorem sb_cat {a b : ByteArray} {xs ys : List Int} (h : SB a xs) (k : SB b ys) : SB (cat a b) (xs ++ ys) := by
  rw [cat_is hA]
  exact h.app k

theorem sb_get {b : ByteArray} {xs : List Int} (h : SB b xs) {i : Int} {d : Int} (j : Nat) (hj : i = j) (hd : xs[j]? = some d) : sget b i = d := by
  rw [sget_is hA, hj]
  have h1 : (byteCells b)[j]? = some (.int .u8 d) := by rw [h]; simp [ints, hd]
  unfold byteCells at h1
  rw [List.getElem?_map, Option.map_eq_some_iff] at h1
  obtain ⟨x, hx, hxd⟩ := h1
  show ((b[((j : Int)).toNat]?).map fun b => (b.toNat : Int)).getD 0 = d
  have h2 : b[((j : Int)).toNat]? = some x := by
    rw [Int.toNat_natCast]
    rw [← hx]
    simp
    rfl
  rw [h2]
  simp only [Value.int.injEq, true_and] at hxd
  exact hxd
end

end Go.Se
