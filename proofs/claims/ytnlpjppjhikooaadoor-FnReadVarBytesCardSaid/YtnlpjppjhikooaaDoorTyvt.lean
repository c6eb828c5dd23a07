/- The types that some functions name, as the evaluator wants them. Printed by a program of my own (seatgen.py). -/
import Derived.Test.YtnlpjppjhikooaaDoorSl
import Derived.Test.YtnlpjppjhikooaaDoorProg
import Derived.KernelRfl
namespace Go.Proofs.YtnlpjppjhikooaaDoor.Tyvt
open Go Go.Se Go.Proofs

/-- int -/
def y3 : Ty := ⟨.int .i64, 1, false, .int .i64 0, 8⟩
theorem ty3 : tyOf Tryd.prog 3 = some y3 := by kernel_rfl
/-- uint8 -/
def y5 : Ty := ⟨.int .u8, 1, false, .int .u8 0, 1⟩
theorem ty5 : tyOf Tryd.prog 5 = some y5 := by kernel_rfl
/-- []uint8 -/
def y22 : Ty := ⟨.slc 5, 1, false, .slice none 0 0, 24⟩
theorem ty22 : tyOf Tryd.prog 22 = some y22 := by kernel_rfl
/-- uint64 -/
def y33 : Ty := ⟨.int .u64, 1, false, .int .u64 0, 8⟩
theorem ty33 : tyOf Tryd.prog 33 = some y33 := by kernel_rfl

/-- function 5: pub-mintmark/laws.FnVarInt -/
def tys5 : Nat → Option Ty := fun t => find [(22, y22), (5, y5), (3, y3), (33, y33)] t
theorem ok5 : TysOk Tryd.prog tys5 := tysOk_of ⟨ty22, ty5, ty3, ty33, trivial⟩

/-- function 11: pub-mintmark/laws.same -/
def tys11 : Nat → Option Ty := fun t => find [(22, y22), (5, y5), (3, y3)] t
theorem ok11 : TysOk Tryd.prog tys11 := tysOk_of ⟨ty22, ty5, ty3, trivial⟩
end Go.Proofs.YtnlpjppjhikooaaDoor.Tyvt
