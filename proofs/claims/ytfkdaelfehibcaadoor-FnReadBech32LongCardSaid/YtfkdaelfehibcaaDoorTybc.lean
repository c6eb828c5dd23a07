/- The types that some functions name, as the evaluator wants them. Printed by a program of my own (seatgen.py). -/
import Derived.Test.YtfkdaelfehibcaaDoorSl
import Derived.Test.YtfkdaelfehibcaaDoorProg
import Derived.KernelRfl
namespace Go.Proofs.YtfkdaelfehibcaaDoor.Tybc
open Go Go.Se Go.Proofs

/-- int -/
def y3 : Ty := ⟨.int .i64, 1, false, .int .i64 0, 8⟩
theorem ty3 : tyOf Tryd.prog 3 = some y3 := by kernel_rfl
/-- uint8 -/
def y5 : Ty := ⟨.int .u8, 1, false, .int .u8 0, 1⟩
theorem ty5 : tyOf Tryd.prog 5 = some y5 := by kernel_rfl
/-- string -/
def y9 : Ty := ⟨.str, 1, false, .string ByteArray.empty, 16⟩
theorem ty9 : tyOf Tryd.prog 9 = some y9 := by kernel_rfl
/-- []uint8 -/
def y22 : Ty := ⟨.slc 5, 1, false, .slice none 0 0, 24⟩
theorem ty22 : tyOf Tryd.prog 22 = some y22 := by kernel_rfl
/-- uint -/
def y40 : Ty := ⟨.int .u64, 1, false, .int .u64 0, 8⟩
theorem ty40 : tyOf Tryd.prog 40 = some y40 := by kernel_rfl
/-- []int -/
def y68 : Ty := ⟨.slc 3, 1, false, .slice none 0 0, 24⟩
theorem ty68 : tyOf Tryd.prog 68 = some y68 := by kernel_rfl

/-- function 24: pub-mintmark/pub/btcdaddress/bech32.bech32Polymod -/
def tys24 : Nat → Option Ty := fun t => find [(9, y9), (3, y3), (5, y5), (40, y40), (68, y68), (22, y22)] t
theorem ok24 : TysOk Tryd.prog tys24 := tysOk_of ⟨ty9, ty3, ty5, ty40, ty68, ty22, trivial⟩
end Go.Proofs.YtfkdaelfehibcaaDoor.Tybc
