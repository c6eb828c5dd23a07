/- The types that some functions name, as the evaluator wants them. Printed by a program of my own (seatgen.py). -/
import Derived.Test.YtfkdaelfehibcaaDoorSl
import Derived.Test.YtfkdaelfehibcaaDoorProg
import Derived.KernelRfl
namespace Go.Proofs.YtfkdaelfehibcaaDoor.Tybe
open Go Go.Se Go.Proofs

/-- int -/
def y3 : Ty := ⟨.int .i64, 1, false, .int .i64 0, 8⟩
theorem ty3 : tyOf Tryd.prog 3 = some y3 := by kernel_rfl
/-- uint8 -/
def y5 : Ty := ⟨.int .u8, 1, false, .int .u8 0, 1⟩
theorem ty5 : tyOf Tryd.prog 5 = some y5 := by kernel_rfl
/-- string -/
def y9 : Ty := ⟨.str, 1, false, .string ByteArray.empty, 16⟩
theorem ty9 : tyOf Tryd.prog 9 = some y9 := by kernel_rfl
/-- []uint8 -/
def y22 : Ty := ⟨.slc 5, 1, false, .slice none 0 0, 24⟩
theorem ty22 : tyOf Tryd.prog 22 = some y22 := by kernel_rfl
/-- uint32 -/
def y23 : Ty := ⟨.int .u32, 1, false, .int .u32 0, 4⟩
theorem ty23 : tyOf Tryd.prog 23 = some y23 := by kernel_rfl

/-- function 4: pub-mintmark/spec.ReadBech32 -/
def tys4 : Nat → Option Ty := fun t => find [(9, y9), (3, y3), (5, y5), (22, y22), (23, y23)] t
theorem ok4 : TysOk Tryd.prog tys4 := tysOk_of ⟨ty9, ty3, ty5, ty22, ty23, trivial⟩
end Go.Proofs.YtfkdaelfehibcaaDoor.Tybe
