/- The types that some functions name, as the evaluator wants them. Printed by a program of my own (seatgen.py). -/
import Derived.Test.YtnlpjppjhikooaaDoorSl
import Derived.Test.YtnlpjppjhikooaaDoorProg
import Derived.KernelRfl
namespace Go.Proofs.YtnlpjppjhikooaaDoor.Tyvk
open Go Go.Se Go.Proofs

/-- int -/
def y3 : Ty := ⟨.int .i64, 1, false, .int .i64 0, 8⟩
theorem ty3 : tyOf Tryd.prog 3 = some y3 := by kernel_rfl
/-- bool -/
def y4 : Ty := ⟨.bool, 1, false, .bool false, 1⟩
theorem ty4 : tyOf Tryd.prog 4 = some y4 := by kernel_rfl
/-- uint8 -/
def y5 : Ty := ⟨.int .u8, 1, false, .int .u8 0, 1⟩
theorem ty5 : tyOf Tryd.prog 5 = some y5 := by kernel_rfl
/-- []uint8 -/
def y22 : Ty := ⟨.slc 5, 1, false, .slice none 0 0, 24⟩
theorem ty22 : tyOf Tryd.prog 22 = some y22 := by kernel_rfl
/-- impl.Header -/
def y45 : Ty := ⟨.stc [(0, 21), (1, 43), (33, 43), (65, 23), (66, 23), (67, 23)], 68, true, .agg #[.int .i32 0, .int .u8 0, .int .u8 0, .int .u8 0, .int .u8 0, .int .u8 0, .int .u8 0, .int .u8 0, .int .u8 0, .int .u8 0, .int .u8 0, .int .u8 0, .int .u8 0, .int .u8 0, .int .u8 0, .int .u8 0, .int .u8 0, .int .u8 0, .int .u8 0, .int .u8 0, .int .u8 0, .int .u8 0, .int .u8 0, .int .u8 0, .int .u8 0, .int .u8 0, .int .u8 0, .int .u8 0, .int .u8 0, .int .u8 0, .int .u8 0, .int .u8 0, .int .u8 0, .int .u8 0, .int .u8 0, .int .u8 0, .int .u8 0, .int .u8 0, .int .u8 0, .int .u8 0, .int .u8 0, .int .u8 0, .int .u8 0, .int .u8 0, .int .u8 0, .int .u8 0, .int .u8 0, .int .u8 0, .int .u8 0, .int .u8 0, .int .u8 0, .int .u8 0, .int .u8 0, .int .u8 0, .int .u8 0, .int .u8 0, .int .u8 0, .int .u8 0, .int .u8 0, .int .u8 0, .int .u8 0, .int .u8 0, .int .u8 0, .int .u8 0, .int .u8 0, .int .u32 0, .int .u32 0, .int .u32 0], 80⟩
theorem ty45 : tyOf Tryd.prog 45 = some y45 := by kernel_rfl

/-- function 7: pub-mintmark/laws.FnReadHeader -/
def tys7 : Nat → Option Ty := fun t => find [(22, y22), (5, y5), (3, y3), (45, y45), (4, y4)] t
theorem ok7 : TysOk Tryd.prog tys7 := tysOk_of ⟨ty22, ty5, ty3, ty45, ty4, trivial⟩
end Go.Proofs.YtnlpjppjhikooaaDoor.Tyvk
