/- The types that some functions name, as the evaluator wants them. Printed by a program of my own (seatgen.py). -/
import Derived.Test.YtfkdaelfehibcaaDoorSl
import Derived.Test.YtfkdaelfehibcaaDoorProg
import Derived.KernelRfl
namespace Go.Proofs.YtfkdaelfehibcaaDoor.Tybf
open Go Go.Se Go.Proofs

/-- int -/
def y3 : Ty := ⟨.int .i64, 1, false, .int .i64 0, 8⟩
theorem ty3 : tyOf Tryd.prog 3 = some y3 := by kernel_rfl
/-- uint8 -/
def y5 : Ty := ⟨.int .u8, 1, false, .int .u8 0, 1⟩
theorem ty5 : tyOf Tryd.prog 5 = some y5 := by kernel_rfl
/-- string -/
def y9 : Ty := ⟨.str, 1, false, .string ByteArray.empty, 16⟩
theorem ty9 : tyOf Tryd.prog 9 = some y9 := by kernel_rfl
/-- []uint8 -/
def y22 : Ty := ⟨.slc 5, 1, false, .slice none 0 0, 24⟩
theorem ty22 : tyOf Tryd.prog 22 = some y22 := by kernel_rfl
/-- *strings.Builder -/
def y53 : Ty := ⟨.ptr, 1, false, .pointer none, 8⟩
theorem ty53 : tyOf Tryd.prog 53 = some y53 := by kernel_rfl
/-- strings.Builder -/
def y55 : Ty := ⟨.stc [(0, 53), (1, 22)], 2, true, .agg #[.pointer none, .slice none 0 0], 32⟩
theorem ty55 : tyOf Tryd.prog 55 = some y55 := by kernel_rfl
/-- *uint8 -/
def y67 : Ty := ⟨.ptr, 1, false, .pointer none, 8⟩
theorem ty67 : tyOf Tryd.prog 67 = some y67 := by kernel_rfl
/-- unsafe.Pointer -/
def y69 : Ty := ⟨.other, 1, false, .pointer none, 8⟩
theorem ty69 : tyOf Tryd.prog 69 = some y69 := by kernel_rfl

/-- function 19: (*strings.Builder).Grow -/
def tys19 : Nat → Option Ty := fun t => find [(3, y3), (9, y9), (55, y55), (53, y53), (22, y22), (5, y5)] t
theorem ok19 : TysOk Tryd.prog tys19 := tysOk_of ⟨ty3, ty9, ty55, ty53, ty22, ty5, trivial⟩

/-- function 21: (*strings.Builder).String -/
def tys21 : Nat → Option Ty := fun t => find [(55, y55), (53, y53), (22, y22), (5, y5), (67, y67), (3, y3)] t
theorem ok21 : TysOk Tryd.prog tys21 := tysOk_of ⟨ty55, ty53, ty22, ty5, ty67, ty3, trivial⟩

/-- function 26: (*strings.Builder).copyCheck -/
def tys26 : Nat → Option Ty := fun t => find [(55, y55), (53, y53), (22, y22), (5, y5), (69, y69)] t
theorem ok26 : TysOk Tryd.prog tys26 := tysOk_of ⟨ty55, ty53, ty22, ty5, ty69, trivial⟩

/-- function 27: (*strings.Builder).grow -/
def tys27 : Nat → Option Ty := fun t => find [(55, y55), (53, y53), (22, y22), (5, y5), (3, y3)] t
theorem ok27 : TysOk Tryd.prog tys27 := tysOk_of ⟨ty55, ty53, ty22, ty5, ty3, trivial⟩

/-- function 29: (*strings.Builder).WriteByte -/
def tys29 : Nat → Option Ty := fun t => find [(55, y55), (53, y53), (22, y22), (5, y5)] t
theorem ok29 : TysOk Tryd.prog tys29 := tysOk_of ⟨ty55, ty53, ty22, ty5, trivial⟩
end Go.Proofs.YtfkdaelfehibcaaDoor.Tybf
