/- The types that some functions name, as the evaluator wants them. Printed by a program of my own (seatgen.py). -/
import Derived.Test.YtclkimgpdnldnaaSl
import Derived.Test.YtclkimgpdnldnaaProg
import Derived.KernelRfl
namespace Go.Proofs.Ytclkimgpdnldnaa.Tynd
open Go Go.Se Go.Proofs

/-- int -/
def y3 : Ty := ⟨.int .i64, 1, false, .int .i64 0, 8⟩
theorem ty3 : tyOf Try.prog 3 = some y3 := by kernel_rfl
/-- uint8 -/
def y5 : Ty := ⟨.int .u8, 1, false, .int .u8 0, 1⟩
theorem ty5 : tyOf Try.prog 5 = some y5 := by kernel_rfl
/-- string -/
def y9 : Ty := ⟨.str, 1, false, .string ByteArray.empty, 16⟩
theorem ty9 : tyOf Try.prog 9 = some y9 := by kernel_rfl
/-- uint32 -/
def y30 : Ty := ⟨.int .u32, 1, false, .int .u32 0, 4⟩
theorem ty30 : tyOf Try.prog 30 = some y30 := by kernel_rfl
/-- []uint8 -/
def y36 : Ty := ⟨.slc 5, 1, false, .slice none 0 0, 24⟩
theorem ty36 : tyOf Try.prog 36 = some y36 := by kernel_rfl
/-- uint16 -/
def y75 : Ty := ⟨.int .u16, 1, false, .int .u16 0, 2⟩
theorem ty75 : tyOf Try.prog 75 = some y75 := by kernel_rfl
/-- error -/
def y102 : Ty := ⟨.ifc, 1, false, .nilIface, 16⟩
theorem ty102 : tyOf Try.prog 102 = some y102 := by kernel_rfl
/-- txscript.ErrorCode -/
def y146 : Ty := ⟨.int .i64, 1, false, .int .i64 0, 8⟩
theorem ty146 : tyOf Try.prog 146 = some y146 := by kernel_rfl
/-- txscript.Error -/
def y148 : Ty := ⟨.stc [(0, 146), (1, 9)], 2, true, .agg #[.int .i64 0, .string ByteArray.empty], 24⟩
theorem ty148 : tyOf Try.prog 148 = some y148 := by kernel_rfl
/-- []txscript.ScriptBuilderOpt -/
def y192 : Ty := ⟨.slc 196, 1, false, .slice none 0 0, 24⟩
theorem ty192 : tyOf Try.prog 192 = some y192 := by kernel_rfl
/-- txscript.ScriptBuilderOpt -/
def y196 : Ty := ⟨.other, 1, false, .nilFunc, 8⟩
theorem ty196 : tyOf Try.prog 196 = some y196 := by kernel_rfl
/-- txscript.scriptBuilderConfig -/
def y198 : Ty := ⟨.stc [(0, 3)], 1, true, .agg #[.int .i64 0], 8⟩
theorem ty198 : tyOf Try.prog 198 = some y198 := by kernel_rfl
/-- txscript.ScriptBuilder -/
def y200 : Ty := ⟨.stc [(0, 36), (1, 102)], 2, true, .agg #[.slice none 0 0, .nilIface], 40⟩
theorem ty200 : tyOf Try.prog 200 = some y200 := by kernel_rfl
/-- txscript.ErrScriptNotCanonical -/
def y201 : Ty := ⟨.str, 1, false, .string ByteArray.empty, 16⟩
theorem ty201 : tyOf Try.prog 201 = some y201 := by kernel_rfl
/-- binary.littleEndian -/
def y220 : Ty := ⟨.stc [], 0, true, .agg #[], 0⟩
theorem ty220 : tyOf Try.prog 220 = some y220 := by kernel_rfl

/-- function 11: pub-mintmark/laws.FnNullData -/
def tys11 : Nat → Option Ty := fun t => find [(36, y36), (5, y5), (3, y3)] t
theorem ok11 : TysOk Try.prog tys11 := tysOk_of ⟨ty36, ty5, ty3, trivial⟩

/-- function 35: pub-mintmark/laws.zero -/
def tys35 : Nat → Option Ty := fun t => find [(36, y36), (5, y5), (3, y3)] t
theorem ok35 : TysOk Try.prog tys35 := tysOk_of ⟨ty36, ty5, ty3, trivial⟩

/-- function 36: pub-mintmark/impl.NullData -/
def tys36 : Nat → Option Ty := fun t => find [] t
theorem ok36 : TysOk Try.prog tys36 := tysOk_of trivial

/-- function 37: pub-mintmark/spec.Push -/
def tys37 : Nat → Option Ty := fun t => find [(3, y3), (5, y5), (36, y36)] t
theorem ok37 : TysOk Try.prog tys37 := tysOk_of ⟨ty3, ty5, ty36, trivial⟩

/-- function 55: pub-mintmark/impl.kindOf -/
def tys55 : Nat → Option Ty := fun t => find [(102, y102), (148, y148), (146, y146), (9, y9), (3, y3)] t
theorem ok55 : TysOk Try.prog tys55 := tysOk_of ⟨ty102, ty148, ty146, ty9, ty3, trivial⟩

/-- function 74: pub-mintmark/pub/btcdtxscript.NullDataScript -/
def tys74 : Nat → Option Ty := fun t => find [(36, y36), (5, y5), (3, y3), (148, y148)] t
theorem ok74 : TysOk Try.prog tys74 := tysOk_of ⟨ty36, ty5, ty3, ty148, trivial⟩

/-- function 75: pub-mintmark/spec.Least -/
def tys75 : Nat → Option Ty := fun t => find [(36, y36), (5, y5), (3, y3)] t
theorem ok75 : TysOk Try.prog tys75 := tysOk_of ⟨ty36, ty5, ty3, trivial⟩

/-- function 86: pub-mintmark/pub/btcdtxscript.scriptError -/
def tys86 : Nat → Option Ty := fun t => find [(148, y148), (146, y146), (9, y9)] t
theorem ok86 : TysOk Try.prog tys86 := tysOk_of ⟨ty148, ty146, ty9, trivial⟩

/-- function 102: pub-mintmark/pub/btcdtxscript.NewScriptBuilder -/
def tys102 : Nat → Option Ty := fun t => find [(192, y192), (196, y196), (3, y3), (198, y198), (36, y36), (5, y5), (200, y200), (102, y102)] t
theorem ok102 : TysOk Try.prog tys102 := tysOk_of ⟨ty192, ty196, ty3, ty198, ty36, ty5, ty200, ty102, trivial⟩

/-- function 103: (*pub-mintmark/pub/btcdtxscript.ScriptBuilder).AddOp -/
def tys103 : Nat → Option Ty := fun t => find [(200, y200), (36, y36), (5, y5), (102, y102), (3, y3), (201, y201)] t
theorem ok103 : TysOk Try.prog tys103 := tysOk_of ⟨ty200, ty36, ty5, ty102, ty3, ty201, trivial⟩

/-- function 104: (*pub-mintmark/pub/btcdtxscript.ScriptBuilder).AddData -/
def tys104 : Nat → Option Ty := fun t => find [(200, y200), (36, y36), (5, y5), (102, y102), (3, y3), (201, y201)] t
theorem ok104 : TysOk Try.prog tys104 := tysOk_of ⟨ty200, ty36, ty5, ty102, ty3, ty201, trivial⟩

/-- function 105: (*pub-mintmark/pub/btcdtxscript.ScriptBuilder).Script -/
def tys105 : Nat → Option Ty := fun t => find [(200, y200), (36, y36), (5, y5), (102, y102)] t
theorem ok105 : TysOk Try.prog tys105 := tysOk_of ⟨ty200, ty36, ty5, ty102, trivial⟩

/-- function 123: pub-mintmark/pub/btcdtxscript.defaultScriptBuilderConfig -/
def tys123 : Nat → Option Ty := fun t => find [(198, y198), (3, y3)] t
theorem ok123 : TysOk Try.prog tys123 := tysOk_of ⟨ty198, ty3, trivial⟩

/-- function 124: pub-mintmark/pub/btcdtxscript.canonicalDataSize -/
def tys124 : Nat → Option Ty := fun t => find [(36, y36), (5, y5), (3, y3)] t
theorem ok124 : TysOk Try.prog tys124 := tysOk_of ⟨ty36, ty5, ty3, trivial⟩

/-- function 125: (*pub-mintmark/pub/btcdtxscript.ScriptBuilder).addData -/
def tys125 : Nat → Option Ty := fun t => find [(36, y36), (5, y5), (3, y3), (200, y200), (102, y102), (220, y220), (75, y75), (30, y30)] t
theorem ok125 : TysOk Try.prog tys125 := tysOk_of ⟨ty36, ty5, ty3, ty200, ty102, ty220, ty75, ty30, trivial⟩
end Go.Proofs.Ytclkimgpdnldnaa.Tynd
