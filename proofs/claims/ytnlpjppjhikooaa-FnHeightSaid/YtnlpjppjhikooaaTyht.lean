/- The types that some functions name, as the evaluator wants them. Printed by a program of my own (seatgen.py). -/
import Derived.Test.YtnlpjppjhikooaaSl
import Derived.Test.YtnlpjppjhikooaaProg
import Derived.KernelRfl
namespace Go.Proofs.Ytnlpjppjhikooaa.Tyht
open Go Go.Se Go.Proofs

/-- int -/
def y3 : Ty := ⟨.int .i64, 1, false, .int .i64 0, 8⟩
theorem ty3 : tyOf Try.prog 3 = some y3 := by kernel_rfl
/-- uint8 -/
def y5 : Ty := ⟨.int .u8, 1, false, .int .u8 0, 1⟩
theorem ty5 : tyOf Try.prog 5 = some y5 := by kernel_rfl
/-- int32 -/
def y21 : Ty := ⟨.int .i32, 1, false, .int .i32 0, 4⟩
theorem ty21 : tyOf Try.prog 21 = some y21 := by kernel_rfl
/-- []uint8 -/
def y22 : Ty := ⟨.slc 5, 1, false, .slice none 0 0, 24⟩
theorem ty22 : tyOf Try.prog 22 = some y22 := by kernel_rfl
/-- txscript.scriptNum -/
def y162 : Ty := ⟨.int .i64, 1, false, .int .i64 0, 8⟩
theorem ty162 : tyOf Try.prog 162 = some y162 := by kernel_rfl

/-- function 15: pub-mintmark/spec.HeightScript -/
def tys15 : Nat → Option Ty := fun t => find [(21, y21), (22, y22), (5, y5), (3, y3)] t
theorem ok15 : TysOk Try.prog tys15 := tysOk_of ⟨ty21, ty22, ty5, ty3, trivial⟩

/-- function 86: (pub-mintmark/pub/btcdtxscript.scriptNum).Bytes -/
def tys86 : Nat → Option Ty := fun t => find [(162, y162), (22, y22), (5, y5), (3, y3)] t
theorem ok86 : TysOk Try.prog tys86 := tysOk_of ⟨ty162, ty22, ty5, ty3, trivial⟩
end Go.Proofs.Ytnlpjppjhikooaa.Tyht
