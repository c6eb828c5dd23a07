/- The types that some functions name, as the evaluator wants them. Printed by a program of my own (seatgen.py). -/
import Derived.Test.YthhlbpahndfdhaaSl
import Derived.Test.YthhlbpahndfdhaaProg
import Derived.KernelRfl
namespace Go.Proofs.Ythhlbpahndfdhaa.Tydc
open Go Go.Se Go.Proofs

/-- int -/
def y3 : Ty := ⟨.int .i64, 1, false, .int .i64 0, 8⟩
theorem ty3 : tyOf Try.prog 3 = some y3 := by kernel_rfl
/-- uint8 -/
def y5 : Ty := ⟨.int .u8, 1, false, .int .u8 0, 1⟩
theorem ty5 : tyOf Try.prog 5 = some y5 := by kernel_rfl
/-- string -/
def y9 : Ty := ⟨.str, 1, false, .string ByteArray.empty, 16⟩
theorem ty9 : tyOf Try.prog 9 = some y9 := by kernel_rfl
/-- []uint8 -/
def y22 : Ty := ⟨.slc 5, 1, false, .slice none 0 0, 24⟩
theorem ty22 : tyOf Try.prog 22 = some y22 := by kernel_rfl

/-- function 29: pub-mintmark/pub/btcdtxscript.opcodeOnelineRepls -/
def tys29 : Nat → Option Ty := fun t => find [(9, y9)] t
theorem ok29 : TysOk Try.prog tys29 := tysOk_of ⟨ty9, trivial⟩

/-- function 30: encoding/hex.EncodeToString -/
def tys30 : Nat → Option Ty := fun t => find [(22, y22), (5, y5), (9, y9)] t
theorem ok30 : TysOk Try.prog tys30 := tysOk_of ⟨ty22, ty5, ty9, trivial⟩

/-- function 32: encoding/hex.EncodedLen -/
def tys32 : Nat → Option Ty := fun t => find [(3, y3)] t
theorem ok32 : TysOk Try.prog tys32 := tysOk_of ⟨ty3, trivial⟩

/-- function 33: encoding/hex.Encode -/
def tys33 : Nat → Option Ty := fun t => find [(22, y22), (5, y5), (3, y3), (9, y9)] t
theorem ok33 : TysOk Try.prog tys33 := tysOk_of ⟨ty22, ty5, ty3, ty9, trivial⟩
end Go.Proofs.Ythhlbpahndfdhaa.Tydc
