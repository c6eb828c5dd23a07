/- The types that some functions name, as the evaluator wants them. Printed by a program of my own (seatgen.py). -/
import Derived.Test.YthhlbpahndfdhaaSl
import Derived.Test.YthhlbpahndfdhaaProg
import Derived.KernelRfl
namespace Go.Proofs.Ythhlbpahndfdhaa.Tydh
open Go Go.Se Go.Proofs

/-- int -/
def y3 : Ty := ⟨.int .i64, 1, false, .int .i64 0, 8⟩
theorem ty3 : tyOf Try.prog 3 = some y3 := by kernel_rfl
/-- uint8 -/
def y5 : Ty := ⟨.int .u8, 1, false, .int .u8 0, 1⟩
theorem ty5 : tyOf Try.prog 5 = some y5 := by kernel_rfl
/-- string -/
def y9 : Ty := ⟨.str, 1, false, .string ByteArray.empty, 16⟩
theorem ty9 : tyOf Try.prog 9 = some y9 := by kernel_rfl
/-- []uint8 -/
def y22 : Ty := ⟨.slc 5, 1, false, .slice none 0 0, 24⟩
theorem ty22 : tyOf Try.prog 22 = some y22 := by kernel_rfl
/-- []spec.Token -/
def y33 : Ty := ⟨.slc 39, 1, false, .slice none 0 0, 24⟩
theorem ty33 : tyOf Try.prog 33 = some y33 := by kernel_rfl
/-- spec.Token -/
def y39 : Ty := ⟨.stc [(0, 3), (1, 22), (2, 3)], 3, true, .agg #[.int .i64 0, .slice none 0 0, .int .i64 0], 40⟩
theorem ty39 : tyOf Try.prog 39 = some y39 := by kernel_rfl

/-- function 5: pub-mintmark/spec.Disassemble -/
def tys5 : Nat → Option Ty := fun t => find [(33, y33), (39, y39), (3, y3), (9, y9), (22, y22), (5, y5)] t
theorem ok5 : TysOk Try.prog tys5 := tysOk_of ⟨ty33, ty39, ty3, ty9, ty22, ty5, trivial⟩
end Go.Proofs.Ythhlbpahndfdhaa.Tydh
