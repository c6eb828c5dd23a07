/- The types that some functions name, as the evaluator wants them. Printed by a program of my own (seatgen.py). -/
import Derived.Test.YtnlpjppjhikooaaSl
import Derived.Test.YtnlpjppjhikooaaProg
import Derived.KernelRfl
namespace Go.Proofs.Ytnlpjppjhikooaa.Tyco
open Go Go.Se Go.Proofs

/-- int -/
def y3 : Ty := ⟨.int .i64, 1, false, .int .i64 0, 8⟩
theorem ty3 : tyOf Try.prog 3 = some y3 := by kernel_rfl
/-- uint32 -/
def y23 : Ty := ⟨.int .u32, 1, false, .int .u32 0, 4⟩
theorem ty23 : tyOf Try.prog 23 = some y23 := by kernel_rfl
/-- big.nat -/
def y89 : Ty := ⟨.slc 23, 1, false, .slice none 0 0, 24⟩
theorem ty89 : tyOf Try.prog 89 = some y89 := by kernel_rfl
/-- uint64 -/
def y148 : Ty := ⟨.int .u64, 1, false, .int .u64 0, 8⟩
theorem ty148 : tyOf Try.prog 148 = some y148 := by kernel_rfl

/-- function 42: (pub-mintmark/pub/smallbig.nat).bitLen -/
def tys42 : Nat → Option Ty := fun t => find [(89, y89), (23, y23), (3, y3)] t
theorem ok42 : TysOk Try.prog tys42 := tysOk_of ⟨ty89, ty23, ty3, trivial⟩

/-- function 56: (pub-mintmark/pub/smallbig.nat).norm -/
def tys56 : Nat → Option Ty := fun t => find [(89, y89), (23, y23), (3, y3)] t
theorem ok56 : TysOk Try.prog tys56 := tysOk_of ⟨ty89, ty23, ty3, trivial⟩

/-- function 76: (pub-mintmark/pub/smallbig.nat).low64 -/
def tys76 : Nat → Option Ty := fun t => find [(89, y89), (23, y23), (3, y3), (148, y148)] t
theorem ok76 : TysOk Try.prog tys76 := tysOk_of ⟨ty89, ty23, ty3, ty148, trivial⟩
end Go.Proofs.Ytnlpjppjhikooaa.Tyco
