/- The types that some functions name, as the evaluator wants them. Printed by a program of my own (seatgen.py). -/
import Derived.Test.YtnlpjppjhikooaaDoorSl
import Derived.Test.YtnlpjppjhikooaaDoorProg
import Derived.KernelRfl
namespace Go.Proofs.YtnlpjppjhikooaaDoor.Tyvu
open Go Go.Se Go.Proofs

/-- int -/
def y3 : Ty := ⟨.int .i64, 1, false, .int .i64 0, 8⟩
theorem ty3 : tyOf Tryd.prog 3 = some y3 := by kernel_rfl
/-- bool -/
def y4 : Ty := ⟨.bool, 1, false, .bool false, 1⟩
theorem ty4 : tyOf Tryd.prog 4 = some y4 := by kernel_rfl
/-- uint8 -/
def y5 : Ty := ⟨.int .u8, 1, false, .int .u8 0, 1⟩
theorem ty5 : tyOf Tryd.prog 5 = some y5 := by kernel_rfl
/-- []uint8 -/
def y22 : Ty := ⟨.slc 5, 1, false, .slice none 0 0, 24⟩
theorem ty22 : tyOf Tryd.prog 22 = some y22 := by kernel_rfl
/-- uint64 -/
def y33 : Ty := ⟨.int .u64, 1, false, .int .u64 0, 8⟩
theorem ty33 : tyOf Tryd.prog 33 = some y33 := by kernel_rfl
/-- spec.wireReader -/
def y87 : Ty := ⟨.stc [(0, 22), (1, 3), (2, 4)], 3, true, .agg #[.slice none 0 0, .int .i64 0, .bool false], 40⟩
theorem ty87 : tyOf Tryd.prog 87 = some y87 := by kernel_rfl

/-- function 24: pub-mintmark/spec.ReadVarBytes -/
def tys24 : Nat → Option Ty := fun t => find [(87, y87), (22, y22), (5, y5), (3, y3), (4, y4)] t
theorem ok24 : TysOk Tryd.prog tys24 := tysOk_of ⟨ty87, ty22, ty5, ty3, ty4, trivial⟩

/-- function 52: (*pub-mintmark/spec.wireReader).varBytes -/
def tys52 : Nat → Option Ty := fun t => find [] t
theorem ok52 : TysOk Tryd.prog tys52 := tysOk_of trivial

/-- function 74: (*pub-mintmark/spec.wireReader).little -/
def tys74 : Nat → Option Ty := fun t => find [(3, y3), (33, y33), (22, y22), (5, y5)] t
theorem ok74 : TysOk Tryd.prog tys74 := tysOk_of ⟨ty3, ty33, ty22, ty5, trivial⟩

/-- function 78: (*pub-mintmark/spec.wireReader).take -/
def tys78 : Nat → Option Ty := fun t => find [(87, y87), (22, y22), (5, y5), (3, y3), (4, y4), (33, y33)] t
theorem ok78 : TysOk Tryd.prog tys78 := tysOk_of ⟨ty87, ty22, ty5, ty3, ty4, ty33, trivial⟩

/-- function 79: (*pub-mintmark/spec.wireReader).varInt -/
def tys79 : Nat → Option Ty := fun t => find [(33, y33), (87, y87), (22, y22), (5, y5), (3, y3), (4, y4)] t
theorem ok79 : TysOk Tryd.prog tys79 := tysOk_of ⟨ty33, ty87, ty22, ty5, ty3, ty4, trivial⟩
end Go.Proofs.YtnlpjppjhikooaaDoor.Tyvu
