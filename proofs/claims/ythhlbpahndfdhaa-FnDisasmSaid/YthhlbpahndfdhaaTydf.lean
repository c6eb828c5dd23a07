/- The types that some functions name, as the evaluator wants them. Printed by a program of my own (seatgen.py). -/
import Derived.Test.YthhlbpahndfdhaaSl
import Derived.Test.YthhlbpahndfdhaaProg
import Derived.KernelRfl
namespace Go.Proofs.Ythhlbpahndfdhaa.Tydf
open Go Go.Se Go.Proofs

/-- int -/
def y3 : Ty := ⟨.int .i64, 1, false, .int .i64 0, 8⟩
theorem ty3 : tyOf Try.prog 3 = some y3 := by kernel_rfl
/-- uint8 -/
def y5 : Ty := ⟨.int .u8, 1, false, .int .u8 0, 1⟩
theorem ty5 : tyOf Try.prog 5 = some y5 := by kernel_rfl
/-- []uint8 -/
def y22 : Ty := ⟨.slc 5, 1, false, .slice none 0 0, 24⟩
theorem ty22 : tyOf Try.prog 22 = some y22 := by kernel_rfl
/-- *strings.Builder -/
def y42 : Ty := ⟨.ptr, 1, false, .pointer none, 8⟩
theorem ty42 : tyOf Try.prog 42 = some y42 := by kernel_rfl
/-- strings.Builder -/
def y44 : Ty := ⟨.stc [(0, 42), (1, 22)], 2, true, .agg #[.pointer none, .slice none 0 0], 32⟩
theorem ty44 : tyOf Try.prog 44 = some y44 := by kernel_rfl
/-- *uint8 -/
def y77 : Ty := ⟨.ptr, 1, false, .pointer none, 8⟩
theorem ty77 : tyOf Try.prog 77 = some y77 := by kernel_rfl

/-- function 21: (*strings.Builder).String -/
def tys21 : Nat → Option Ty := fun t => find [(44, y44), (42, y42), (22, y22), (5, y5), (77, y77), (3, y3)] t
theorem ok21 : TysOk Try.prog tys21 := tysOk_of ⟨ty44, ty42, ty22, ty5, ty77, ty3, trivial⟩
end Go.Proofs.Ythhlbpahndfdhaa.Tydf
