/- The types that some functions name, as the evaluator wants them. Printed by a program of my own (seatgen.py). -/
import Derived.Test.YtfkdaelfehibcaaDoorSl
import Derived.Test.YtfkdaelfehibcaaDoorProg
import Derived.KernelRfl
namespace Go.Proofs.YtfkdaelfehibcaaDoor.Tybh
open Go Go.Se Go.Proofs

/-- int -/
def y3 : Ty := ⟨.int .i64, 1, false, .int .i64 0, 8⟩
theorem ty3 : tyOf Tryd.prog 3 = some y3 := by kernel_rfl
/-- uint8 -/
def y5 : Ty := ⟨.int .u8, 1, false, .int .u8 0, 1⟩
theorem ty5 : tyOf Tryd.prog 5 = some y5 := by kernel_rfl
/-- string -/
def y9 : Ty := ⟨.str, 1, false, .string ByteArray.empty, 16⟩
theorem ty9 : tyOf Tryd.prog 9 = some y9 := by kernel_rfl
/-- []uint8 -/
def y22 : Ty := ⟨.slc 5, 1, false, .slice none 0 0, 24⟩
theorem ty22 : tyOf Tryd.prog 22 = some y22 := by kernel_rfl
/-- error -/
def y35 : Ty := ⟨.ifc, 1, false, .nilIface, 16⟩
theorem ty35 : tyOf Tryd.prog 35 = some y35 := by kernel_rfl
/-- bech32.ErrInvalidLength -/
def y44 : Ty := ⟨.int .i64, 1, false, .int .i64 0, 8⟩
theorem ty44 : tyOf Tryd.prog 44 = some y44 := by kernel_rfl
/-- bech32.ErrInvalidCharacter -/
def y45 : Ty := ⟨.int .i32, 1, false, .int .i32 0, 4⟩
theorem ty45 : tyOf Tryd.prog 45 = some y45 := by kernel_rfl
/-- bech32.ErrMixedCase -/
def y47 : Ty := ⟨.stc [], 0, true, .agg #[], 0⟩
theorem ty47 : tyOf Tryd.prog 47 = some y47 := by kernel_rfl
/-- bech32.ErrInvalidSeparatorIndex -/
def y48 : Ty := ⟨.int .i64, 1, false, .int .i64 0, 8⟩
theorem ty48 : tyOf Tryd.prog 48 = some y48 := by kernel_rfl
/-- strings.Builder -/
def y55 : Ty := ⟨.stc [(0, 53), (1, 22)], 2, true, .agg #[.pointer none, .slice none 0 0], 32⟩
theorem ty55 : tyOf Tryd.prog 55 = some y55 := by kernel_rfl
/-- bech32.ErrInvalidChecksum -/
def y60 : Ty := ⟨.stc [(0, 9), (1, 9), (2, 9)], 3, true, .agg #[.string ByteArray.empty, .string ByteArray.empty, .string ByteArray.empty], 48⟩
theorem ty60 : tyOf Tryd.prog 60 = some y60 := by kernel_rfl

/-- function 14: pub-mintmark/pub/btcdaddress/bech32.DecodeNoLimitWithVersion -/
def tys14 : Nat → Option Ty := fun t => find [(9, y9), (3, y3), (44, y44), (5, y5), (45, y45), (47, y47), (48, y48), (35, y35), (22, y22), (55, y55), (60, y60)] t
theorem ok14 : TysOk Tryd.prog tys14 := tysOk_of ⟨ty9, ty3, ty44, ty5, ty45, ty47, ty48, ty35, ty22, ty55, ty60, trivial⟩
end Go.Proofs.YtfkdaelfehibcaaDoor.Tybh
