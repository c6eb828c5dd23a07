/- The types that some functions name, as the evaluator wants them. Printed by a program of my own (seatgen.py). -/
import Derived.Test.YtclkimgpdnldnaaSl
import Derived.Test.YtclkimgpdnldnaaProg
import Derived.KernelRfl
namespace Go.Proofs.Ytclkimgpdnldnaa.Num
open Go Go.Se Go.Proofs

/-- int64 -/
def y2 : Ty := ⟨.int .i64, 1, false, .int .i64 0⟩
theorem ty2 : tyOf Try.prog 2 = some y2 := by kernel_rfl
/-- int -/
def y3 : Ty := ⟨.int .i64, 1, false, .int .i64 0⟩
theorem ty3 : tyOf Try.prog 3 = some y3 := by kernel_rfl
/-- uint8 -/
def y5 : Ty := ⟨.int .u8, 1, false, .int .u8 0⟩
theorem ty5 : tyOf Try.prog 5 = some y5 := by kernel_rfl
/-- string -/
def y9 : Ty := ⟨.str, 1, false, .string ByteArray.empty⟩
theorem ty9 : tyOf Try.prog 9 = some y9 := by kernel_rfl
/-- []uint8 -/
def y36 : Ty := ⟨.slc 5, 1, false, .slice none 0 0⟩
theorem ty36 : tyOf Try.prog 36 = some y36 := by kernel_rfl
/-- uint64 -/
def y98 : Ty := ⟨.int .u64, 1, false, .int .u64 0⟩
theorem ty98 : tyOf Try.prog 98 = some y98 := by kernel_rfl
/-- error -/
def y102 : Ty := ⟨.ifc, 1, false, .nilIface⟩
theorem ty102 : tyOf Try.prog 102 = some y102 := by kernel_rfl
/-- txscript.ErrorCode -/
def y146 : Ty := ⟨.int .i64, 1, false, .int .i64 0⟩
theorem ty146 : tyOf Try.prog 146 = some y146 := by kernel_rfl
/-- txscript.Error -/
def y148 : Ty := ⟨.stc [(0, 146), (1, 9)], 2, true, .agg #[.int .i64 0, .string ByteArray.empty]⟩
theorem ty148 : tyOf Try.prog 148 = some y148 := by kernel_rfl

/-- function 53: pub-mintmark/spec.Shortest -/
def tys53 : Nat → Option Ty := fun t => find [(36, y36), (5, y5), (3, y3)] t
theorem ok53 : TysOk Try.prog tys53 := tysOk_of ⟨ty36, ty5, ty3, trivial⟩

/-- function 20: pub-mintmark/spec.Number -/
def tys20 : Nat → Option Ty := fun t => find [(36, y36), (5, y5), (3, y3), (98, y98), (2, y2)] t
theorem ok20 : TysOk Try.prog tys20 := tysOk_of ⟨ty36, ty5, ty3, ty98, ty2, trivial⟩

/-- function 86: pub-mintmark/pub/btcdtxscript.scriptError -/
def tys86 : Nat → Option Ty := fun t => find [(148, y148), (146, y146), (9, y9)] t
theorem ok86 : TysOk Try.prog tys86 := tysOk_of ⟨ty148, ty146, ty9, trivial⟩

/-- function 87: pub-mintmark/pub/btcdtxscript.checkMinimalDataEncoding -/
def tys87 : Nat → Option Ty := fun t => find [(36, y36), (5, y5), (3, y3), (148, y148)] t
theorem ok87 : TysOk Try.prog tys87 := tysOk_of ⟨ty36, ty5, ty3, ty148, trivial⟩

/-- function 54: pub-mintmark/pub/btcdtxscript.MakeScriptNum -/
def tys54 : Nat → Option Ty := fun t => find [(36, y36), (5, y5), (3, y3), (148, y148), (102, y102), (2, y2)] t
theorem ok54 : TysOk Try.prog tys54 := tysOk_of ⟨ty36, ty5, ty3, ty148, ty102, ty2, trivial⟩

/-- function 55: pub-mintmark/impl.kindOf -/
def tys55 : Nat → Option Ty := fun t => find [(102, y102), (148, y148), (146, y146), (9, y9), (3, y3)] t
theorem ok55 : TysOk Try.prog tys55 := tysOk_of ⟨ty102, ty148, ty146, ty9, ty3, trivial⟩

/-- function 21: pub-mintmark/impl.Number -/
def tys21 : Nat → Option Ty := fun t => find [] t
theorem ok21 : TysOk Try.prog tys21 := tysOk_of trivial

/-- function 6: pub-mintmark/laws.FnNumber -/
def tys6 : Nat → Option Ty := fun t => find [(36, y36), (5, y5), (3, y3), (2, y2)] t
theorem ok6 : TysOk Try.prog tys6 := tysOk_of ⟨ty36, ty5, ty3, ty2, trivial⟩
end Go.Proofs.Ytclkimgpdnldnaa.Num
