/- The types that some functions name, as the evaluator wants them. Printed by a program of my own (seatgen.py). -/
import Derived.Test.YtnlpjppjhikooaaSl
import Derived.Test.YtnlpjppjhikooaaProg
import Derived.KernelRfl
namespace Go.Proofs.Ytnlpjppjhikooaa.Tycs
open Go Go.Se Go.Proofs

/-- int -/
def y3 : Ty := ⟨.int .i64, 1, false, .int .i64 0, 8⟩
theorem ty3 : tyOf Try.prog 3 = some y3 := by kernel_rfl
/-- uint8 -/
def y5 : Ty := ⟨.int .u8, 1, false, .int .u8 0, 1⟩
theorem ty5 : tyOf Try.prog 5 = some y5 := by kernel_rfl
/-- []uint8 -/
def y22 : Ty := ⟨.slc 5, 1, false, .slice none 0 0, 24⟩
theorem ty22 : tyOf Try.prog 22 = some y22 := by kernel_rfl
/-- uint32 -/
def y23 : Ty := ⟨.int .u32, 1, false, .int .u32 0, 4⟩
theorem ty23 : tyOf Try.prog 23 = some y23 := by kernel_rfl

/-- function 13: pub-mintmark/spec.Compact -/
def tys13 : Nat → Option Ty := fun t => find [(22, y22), (5, y5), (3, y3), (23, y23)] t
theorem ok13 : TysOk Try.prog tys13 := tysOk_of ⟨ty22, ty5, ty3, ty23, trivial⟩

/-- function 24: pub-mintmark/spec.trim -/
def tys24 : Nat → Option Ty := fun t => find [(22, y22), (5, y5), (3, y3)] t
theorem ok24 : TysOk Try.prog tys24 := tysOk_of ⟨ty22, ty5, ty3, trivial⟩
end Go.Proofs.Ytnlpjppjhikooaa.Tycs
