/- The types that some functions name, as the evaluator wants them. Printed by a program of my own (seatgen.py). -/
import Derived.Test.YtnlpjppjhikooaaDoorSl
import Derived.Test.YtnlpjppjhikooaaDoorProg
import Derived.KernelRfl
namespace Go.Proofs.YtnlpjppjhikooaaDoor.Tyvh
open Go Go.Se Go.Proofs

/-- int -/
def y3 : Ty := ⟨.int .i64, 1, false, .int .i64 0, 8⟩
theorem ty3 : tyOf Tryd.prog 3 = some y3 := by kernel_rfl
/-- bool -/
def y4 : Ty := ⟨.bool, 1, false, .bool false, 1⟩
theorem ty4 : tyOf Tryd.prog 4 = some y4 := by kernel_rfl
/-- uint8 -/
def y5 : Ty := ⟨.int .u8, 1, false, .int .u8 0, 1⟩
theorem ty5 : tyOf Tryd.prog 5 = some y5 := by kernel_rfl
/-- int32 -/
def y21 : Ty := ⟨.int .i32, 1, false, .int .i32 0, 4⟩
theorem ty21 : tyOf Tryd.prog 21 = some y21 := by kernel_rfl
/-- []uint8 -/
def y22 : Ty := ⟨.slc 5, 1, false, .slice none 0 0, 24⟩
theorem ty22 : tyOf Tryd.prog 22 = some y22 := by kernel_rfl
/-- uint32 -/
def y23 : Ty := ⟨.int .u32, 1, false, .int .u32 0, 4⟩
theorem ty23 : tyOf Tryd.prog 23 = some y23 := by kernel_rfl
/-- uint64 -/
def y33 : Ty := ⟨.int .u64, 1, false, .int .u64 0, 8⟩
theorem ty33 : tyOf Tryd.prog 33 = some y33 := by kernel_rfl
/-- [32]uint8 -/
def y43 : Ty := ⟨.arr 32 5, 32, true, .agg #[.int .u8 0, .int .u8 0, .int .u8 0, .int .u8 0, .int .u8 0, .int .u8 0, .int .u8 0, .int .u8 0, .int .u8 0, .int .u8 0, .int .u8 0, .int .u8 0, .int .u8 0, .int .u8 0, .int .u8 0, .int .u8 0, .int .u8 0, .int .u8 0, .int .u8 0, .int .u8 0, .int .u8 0, .int .u8 0, .int .u8 0, .int .u8 0, .int .u8 0, .int .u8 0, .int .u8 0, .int .u8 0, .int .u8 0, .int .u8 0, .int .u8 0, .int .u8 0], 32⟩
theorem ty43 : tyOf Tryd.prog 43 = some y43 := by kernel_rfl
/-- impl.Header -/
def y45 : Ty := ⟨.stc [(0, 21), (1, 43), (33, 43), (65, 23), (66, 23), (67, 23)], 68, true, .agg #[.int .i32 0, .int .u8 0, .int .u8 0, .int .u8 0, .int .u8 0, .int .u8 0, .int .u8 0, .int .u8 0, .int .u8 0, .int .u8 0, .int .u8 0, .int .u8 0, .int .u8 0, .int .u8 0, .int .u8 0, .int .u8 0, .int .u8 0, .int .u8 0, .int .u8 0, .int .u8 0, .int .u8 0, .int .u8 0, .int .u8 0, .int .u8 0, .int .u8 0, .int .u8 0, .int .u8 0, .int .u8 0, .int .u8 0, .int .u8 0, .int .u8 0, .int .u8 0, .int .u8 0, .int .u8 0, .int .u8 0, .int .u8 0, .int .u8 0, .int .u8 0, .int .u8 0, .int .u8 0, .int .u8 0, .int .u8 0, .int .u8 0, .int .u8 0, .int .u8 0, .int .u8 0, .int .u8 0, .int .u8 0, .int .u8 0, .int .u8 0, .int .u8 0, .int .u8 0, .int .u8 0, .int .u8 0, .int .u8 0, .int .u8 0, .int .u8 0, .int .u8 0, .int .u8 0, .int .u8 0, .int .u8 0, .int .u8 0, .int .u8 0, .int .u8 0, .int .u8 0, .int .u32 0, .int .u32 0, .int .u32 0], 80⟩
theorem ty45 : tyOf Tryd.prog 45 = some y45 := by kernel_rfl
/-- spec.wireReader -/
def y87 : Ty := ⟨.stc [(0, 22), (1, 3), (2, 4)], 3, true, .agg #[.slice none 0 0, .int .i64 0, .bool false], 40⟩
theorem ty87 : tyOf Tryd.prog 87 = some y87 := by kernel_rfl

/-- function 22: pub-mintmark/spec.ReadHeader -/
def tys22 : Nat → Option Ty := fun t => find [(45, y45), (87, y87), (22, y22), (5, y5), (3, y3), (4, y4), (21, y21), (43, y43), (23, y23)] t
theorem ok22 : TysOk Tryd.prog tys22 := tysOk_of ⟨ty45, ty87, ty22, ty5, ty3, ty4, ty21, ty43, ty23, trivial⟩

/-- function 49: (*pub-mintmark/spec.wireReader).header -/
def tys49 : Nat → Option Ty := fun t => find [(45, y45), (33, y33), (21, y21), (43, y43), (5, y5), (23, y23)] t
theorem ok49 : TysOk Tryd.prog tys49 := tysOk_of ⟨ty45, ty33, ty21, ty43, ty5, ty23, trivial⟩

/-- function 74: (*pub-mintmark/spec.wireReader).little -/
def tys74 : Nat → Option Ty := fun t => find [(3, y3), (33, y33), (22, y22), (5, y5)] t
theorem ok74 : TysOk Tryd.prog tys74 := tysOk_of ⟨ty3, ty33, ty22, ty5, trivial⟩

/-- function 75: (*pub-mintmark/spec.wireReader).hash -/
def tys75 : Nat → Option Ty := fun t => find [(43, y43), (5, y5), (22, y22)] t
theorem ok75 : TysOk Tryd.prog tys75 := tysOk_of ⟨ty43, ty5, ty22, trivial⟩

/-- function 78: (*pub-mintmark/spec.wireReader).take -/
def tys78 : Nat → Option Ty := fun t => find [(87, y87), (22, y22), (5, y5), (3, y3), (4, y4), (33, y33)] t
theorem ok78 : TysOk Tryd.prog tys78 := tysOk_of ⟨ty87, ty22, ty5, ty3, ty4, ty33, trivial⟩
end Go.Proofs.YtnlpjppjhikooaaDoor.Tyvh
