/- The types that some functions name, as the evaluator wants them. Printed by a program of my own (seatgen.py). -/
import Derived.Test.YthhlbpahndfdhaaSl
import Derived.Test.YthhlbpahndfdhaaProg
import Derived.KernelRfl
namespace Go.Proofs.Ythhlbpahndfdhaa.Tydi
open Go Go.Se Go.Proofs

/-- int -/
def y3 : Ty := ⟨.int .i64, 1, false, .int .i64 0, 8⟩
theorem ty3 : tyOf Try.prog 3 = some y3 := by kernel_rfl
/-- bool -/
def y4 : Ty := ⟨.bool, 1, false, .bool false, 1⟩
theorem ty4 : tyOf Try.prog 4 = some y4 := by kernel_rfl
/-- uint8 -/
def y5 : Ty := ⟨.int .u8, 1, false, .int .u8 0, 1⟩
theorem ty5 : tyOf Try.prog 5 = some y5 := by kernel_rfl
/-- string -/
def y9 : Ty := ⟨.str, 1, false, .string ByteArray.empty, 16⟩
theorem ty9 : tyOf Try.prog 9 = some y9 := by kernel_rfl
/-- []uint8 -/
def y22 : Ty := ⟨.slc 5, 1, false, .slice none 0 0, 24⟩
theorem ty22 : tyOf Try.prog 22 = some y22 := by kernel_rfl
/-- error -/
def y29 : Ty := ⟨.ifc, 1, false, .nilIface, 16⟩
theorem ty29 : tyOf Try.prog 29 = some y29 := by kernel_rfl
/-- txscript.ErrorCode -/
def y59 : Ty := ⟨.int .i64, 1, false, .int .i64 0, 8⟩
theorem ty59 : tyOf Try.prog 59 = some y59 := by kernel_rfl
/-- txscript.Error -/
def y61 : Ty := ⟨.stc [(0, 59), (1, 9)], 2, true, .agg #[.int .i64 0, .string ByteArray.empty], 24⟩
theorem ty61 : tyOf Try.prog 61 = some y61 := by kernel_rfl

/-- function 3: pub-mintmark/laws.FnDisasm -/
def tys3 : Nat → Option Ty := fun t => find [(22, y22), (5, y5), (3, y3), (9, y9), (4, y4)] t
theorem ok3 : TysOk Try.prog tys3 := tysOk_of ⟨ty22, ty5, ty3, ty9, ty4, trivial⟩

/-- function 4: pub-mintmark/impl.Disasm -/
def tys4 : Nat → Option Ty := fun t => find [] t
theorem ok4 : TysOk Try.prog tys4 := tysOk_of trivial

/-- function 7: pub-mintmark/impl.kindOf -/
def tys7 : Nat → Option Ty := fun t => find [(29, y29), (61, y61), (59, y59), (9, y9), (3, y3)] t
theorem ok7 : TysOk Try.prog tys7 := tysOk_of ⟨ty29, ty61, ty59, ty9, ty3, trivial⟩
end Go.Proofs.Ythhlbpahndfdhaa.Tydi
