/- The types that some functions name, as the evaluator wants them. Printed by a program of my own (seatgen.py). -/
import Derived.Test.YthhlbpahndfdhaaSl
import Derived.Test.YthhlbpahndfdhaaProg
import Derived.KernelRfl
namespace Go.Proofs.Ythhlbpahndfdhaa.Tydd
open Go Go.Se Go.Proofs

/-- uint8 -/
def y5 : Ty := ⟨.int .u8, 1, false, .int .u8 0, 1⟩
theorem ty5 : tyOf Try.prog 5 = some y5 := by kernel_rfl
/-- string -/
def y9 : Ty := ⟨.str, 1, false, .string ByteArray.empty, 16⟩
theorem ty9 : tyOf Try.prog 9 = some y9 := by kernel_rfl
/-- []uint8 -/
def y22 : Ty := ⟨.slc 5, 1, false, .slice none 0 0, 24⟩
theorem ty22 : tyOf Try.prog 22 = some y22 := by kernel_rfl
/-- *strings.Builder -/
def y42 : Ty := ⟨.ptr, 1, false, .pointer none, 8⟩
theorem ty42 : tyOf Try.prog 42 = some y42 := by kernel_rfl
/-- strings.Builder -/
def y44 : Ty := ⟨.stc [(0, 42), (1, 22)], 2, true, .agg #[.pointer none, .slice none 0 0], 32⟩
theorem ty44 : tyOf Try.prog 44 = some y44 := by kernel_rfl
/-- unsafe.Pointer -/
def y80 : Ty := ⟨.other, 1, false, .pointer none, 8⟩
theorem ty80 : tyOf Try.prog 80 = some y80 := by kernel_rfl

/-- function 17: (*strings.Builder).WriteByte -/
def tys17 : Nat → Option Ty := fun t => find [(44, y44), (42, y42), (22, y22), (5, y5)] t
theorem ok17 : TysOk Try.prog tys17 := tysOk_of ⟨ty44, ty42, ty22, ty5, trivial⟩

/-- function 20: (*strings.Builder).WriteString -/
def tys20 : Nat → Option Ty := fun t => find [(44, y44), (42, y42), (22, y22), (5, y5), (9, y9)] t
theorem ok20 : TysOk Try.prog tys20 := tysOk_of ⟨ty44, ty42, ty22, ty5, ty9, trivial⟩

/-- function 31: (*strings.Builder).copyCheck -/
def tys31 : Nat → Option Ty := fun t => find [(44, y44), (42, y42), (22, y22), (5, y5), (80, y80)] t
theorem ok31 : TysOk Try.prog tys31 := tysOk_of ⟨ty44, ty42, ty22, ty5, ty80, trivial⟩
end Go.Proofs.Ythhlbpahndfdhaa.Tydd
