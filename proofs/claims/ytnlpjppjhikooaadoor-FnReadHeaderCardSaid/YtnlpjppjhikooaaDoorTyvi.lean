/- The types that some functions name, as the evaluator wants them. Printed by a program of my own (seatgen.py). -/
import Derived.Test.YtnlpjppjhikooaaDoorSl
import Derived.Test.YtnlpjppjhikooaaDoorProg
import Derived.KernelRfl
namespace Go.Proofs.YtnlpjppjhikooaaDoor.Tyvi
open Go Go.Se Go.Proofs

/-- int64 -/
def y2 : Ty := ⟨.int .i64, 1, false, .int .i64 0, 8⟩
theorem ty2 : tyOf Tryd.prog 2 = some y2 := by kernel_rfl
/-- int -/
def y3 : Ty := ⟨.int .i64, 1, false, .int .i64 0, 8⟩
theorem ty3 : tyOf Tryd.prog 3 = some y3 := by kernel_rfl
/-- uint8 -/
def y5 : Ty := ⟨.int .u8, 1, false, .int .u8 0, 1⟩
theorem ty5 : tyOf Tryd.prog 5 = some y5 := by kernel_rfl
/-- []uint8 -/
def y22 : Ty := ⟨.slc 5, 1, false, .slice none 0 0, 24⟩
theorem ty22 : tyOf Tryd.prog 22 = some y22 := by kernel_rfl
/-- error -/
def y58 : Ty := ⟨.ifc, 1, false, .nilIface, 16⟩
theorem ty58 : tyOf Tryd.prog 58 = some y58 := by kernel_rfl
/-- bytes.Reader -/
def y127 : Ty := ⟨.stc [(0, 22), (1, 2), (2, 3)], 3, true, .agg #[.slice none 0 0, .int .i64 0, .int .i64 0], 40⟩
theorem ty127 : tyOf Tryd.prog 127 = some y127 := by kernel_rfl

/-- function 102: io.ReadFull -/
def tys102 : Nat → Option Ty := fun t => find [(22, y22), (5, y5)] t
theorem ok102 : TysOk Tryd.prog tys102 := tysOk_of ⟨ty22, ty5, trivial⟩

/-- function 122: io.ReadAtLeast -/
def tys122 : Nat → Option Ty := fun t => find [(22, y22), (5, y5), (3, y3), (58, y58)] t
theorem ok122 : TysOk Tryd.prog tys122 := tysOk_of ⟨ty22, ty5, ty3, ty58, trivial⟩

/-- function 160: (*bytes.Reader).Read -/
def tys160 : Nat → Option Ty := fun t => find [(127, y127), (22, y22), (5, y5), (2, y2), (3, y3), (58, y58)] t
theorem ok160 : TysOk Tryd.prog tys160 := tysOk_of ⟨ty127, ty22, ty5, ty2, ty3, ty58, trivial⟩
end Go.Proofs.YtnlpjppjhikooaaDoor.Tyvi
