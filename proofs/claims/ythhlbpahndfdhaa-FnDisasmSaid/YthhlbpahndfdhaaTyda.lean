/- The types that some functions name, as the evaluator wants them. Printed by a program of my own (seatgen.py). -/
import Derived.Test.YthhlbpahndfdhaaSl
import Derived.Test.YthhlbpahndfdhaaProg
import Derived.KernelRfl
namespace Go.Proofs.Ythhlbpahndfdhaa.Tyda
open Go Go.Se Go.Proofs

/-- int -/
def y3 : Ty := ⟨.int .i64, 1, false, .int .i64 0, 8⟩
theorem ty3 : tyOf Try.prog 3 = some y3 := by kernel_rfl
/-- uint8 -/
def y5 : Ty := ⟨.int .u8, 1, false, .int .u8 0, 1⟩
theorem ty5 : tyOf Try.prog 5 = some y5 := by kernel_rfl
/-- string -/
def y9 : Ty := ⟨.str, 1, false, .string ByteArray.empty, 16⟩
theorem ty9 : tyOf Try.prog 9 = some y9 := by kernel_rfl
/-- []uint8 -/
def y22 : Ty := ⟨.slc 5, 1, false, .slice none 0 0, 24⟩
theorem ty22 : tyOf Try.prog 22 = some y22 := by kernel_rfl

/-- function 9: pub-mintmark/spec.Small -/
def tys9 : Nat → Option Ty := fun t => find [(3, y3)] t
theorem ok9 : TysOk Try.prog tys9 := tysOk_of ⟨ty3, trivial⟩

/-- function 10: pub-mintmark/spec.decimal -/
def tys10 : Nat → Option Ty := fun t => find [(3, y3), (5, y5), (22, y22), (9, y9)] t
theorem ok10 : TysOk Try.prog tys10 := tysOk_of ⟨ty3, ty5, ty22, ty9, trivial⟩

/-- function 23: pub-mintmark/spec.part -/
def tys23 : Nat → Option Ty := fun t => find [(9, y9), (3, y3), (5, y5)] t
theorem ok23 : TysOk Try.prog tys23 := tysOk_of ⟨ty9, ty3, ty5, trivial⟩
end Go.Proofs.Ythhlbpahndfdhaa.Tyda
