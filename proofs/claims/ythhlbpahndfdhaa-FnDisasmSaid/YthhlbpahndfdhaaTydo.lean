/- The types that some functions name, as the evaluator wants them. Printed by a program of my own (seatgen.py). -/
import Derived.Test.YthhlbpahndfdhaaSl
import Derived.Test.YthhlbpahndfdhaaProg
import Derived.KernelRfl
namespace Go.Proofs.Ythhlbpahndfdhaa.Tydo
open Go Go.Se Go.Proofs

/-- int -/
def y3 : Ty := ⟨.int .i64, 1, false, .int .i64 0, 8⟩
theorem ty3 : tyOf Try.prog 3 = some y3 := by kernel_rfl
/-- bool -/
def y4 : Ty := ⟨.bool, 1, false, .bool false, 1⟩
theorem ty4 : tyOf Try.prog 4 = some y4 := by kernel_rfl
/-- uint8 -/
def y5 : Ty := ⟨.int .u8, 1, false, .int .u8 0, 1⟩
theorem ty5 : tyOf Try.prog 5 = some y5 := by kernel_rfl
/-- string -/
def y9 : Ty := ⟨.str, 1, false, .string ByteArray.empty, 16⟩
theorem ty9 : tyOf Try.prog 9 = some y9 := by kernel_rfl
/-- *txscript.opcode -/
def y46 : Ty := ⟨.ptr, 1, false, .pointer none, 8⟩
theorem ty46 : tyOf Try.prog 46 = some y46 := by kernel_rfl
/-- txscript.opcode -/
def y70 : Ty := ⟨.stc [(0, 5), (1, 9), (2, 3)], 3, true, .agg #[.int .u8 0, .string ByteArray.empty, .int .i64 0], 32⟩
theorem ty70 : tyOf Try.prog 70 = some y70 := by kernel_rfl

/-- function 26: pub-mintmark/pub/btcdtxscript.opcodeOf -/
def tys26 : Nat → Option Ty := fun t => find [(46, y46), (70, y70), (5, y5), (9, y9), (3, y3), (4, y4)] t
theorem ok26 : TysOk Try.prog tys26 := tysOk_of ⟨ty46, ty70, ty5, ty9, ty3, ty4, trivial⟩
end Go.Proofs.Ythhlbpahndfdhaa.Tydo
