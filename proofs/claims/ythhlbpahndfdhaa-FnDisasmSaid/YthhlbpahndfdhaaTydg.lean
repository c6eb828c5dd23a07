/- The types that some functions name, as the evaluator wants them. Printed by a program of my own (seatgen.py). -/
import Derived.Test.YthhlbpahndfdhaaSl
import Derived.Test.YthhlbpahndfdhaaProg
import Derived.KernelRfl
namespace Go.Proofs.Ythhlbpahndfdhaa.Tydg
open Go Go.Se Go.Proofs

/-- int -/
def y3 : Ty := ⟨.int .i64, 1, false, .int .i64 0, 8⟩
theorem ty3 : tyOf Try.prog 3 = some y3 := by kernel_rfl
/-- uint8 -/
def y5 : Ty := ⟨.int .u8, 1, false, .int .u8 0, 1⟩
theorem ty5 : tyOf Try.prog 5 = some y5 := by kernel_rfl
/-- string -/
def y9 : Ty := ⟨.str, 1, false, .string ByteArray.empty, 16⟩
theorem ty9 : tyOf Try.prog 9 = some y9 := by kernel_rfl
/-- int32 -/
def y21 : Ty := ⟨.int .i32, 1, false, .int .i32 0, 4⟩
theorem ty21 : tyOf Try.prog 21 = some y21 := by kernel_rfl
/-- []uint8 -/
def y22 : Ty := ⟨.slc 5, 1, false, .slice none 0 0, 24⟩
theorem ty22 : tyOf Try.prog 22 = some y22 := by kernel_rfl
/-- error -/
def y29 : Ty := ⟨.ifc, 1, false, .nilIface, 16⟩
theorem ty29 : tyOf Try.prog 29 = some y29 := by kernel_rfl
/-- strings.Builder -/
def y44 : Ty := ⟨.stc [(0, 42), (1, 22)], 2, true, .agg #[.pointer none, .slice none 0 0], 32⟩
theorem ty44 : tyOf Try.prog 44 = some y44 := by kernel_rfl
/-- uint16 -/
def y45 : Ty := ⟨.int .u16, 1, false, .int .u16 0, 2⟩
theorem ty45 : tyOf Try.prog 45 = some y45 := by kernel_rfl
/-- *txscript.opcode -/
def y46 : Ty := ⟨.ptr, 1, false, .pointer none, 8⟩
theorem ty46 : tyOf Try.prog 46 = some y46 := by kernel_rfl
/-- txscript.ScriptTokenizer -/
def y48 : Ty := ⟨.stc [(0, 22), (1, 45), (2, 21), (3, 21), (4, 46), (5, 22), (6, 29)], 7, true, .agg #[.slice none 0 0, .int .u16 0, .int .i32 0, .int .i32 0, .pointer none, .slice none 0 0, .nilIface], 88⟩
theorem ty48 : tyOf Try.prog 48 = some y48 := by kernel_rfl
/-- txscript.Error -/
def y61 : Ty := ⟨.stc [(0, 59), (1, 9)], 2, true, .agg #[.int .i64 0, .string ByteArray.empty], 24⟩
theorem ty61 : tyOf Try.prog 61 = some y61 := by kernel_rfl
/-- txscript.opcode -/
def y70 : Ty := ⟨.stc [(0, 5), (1, 9), (2, 3)], 3, true, .agg #[.int .u8 0, .string ByteArray.empty, .int .i64 0], 32⟩
theorem ty70 : tyOf Try.prog 70 = some y70 := by kernel_rfl
/-- binary.littleEndian -/
def y72 : Ty := ⟨.stc [], 0, true, .agg #[], 0⟩
theorem ty72 : tyOf Try.prog 72 = some y72 := by kernel_rfl
/-- uint32 -/
def y74 : Ty := ⟨.int .u32, 1, false, .int .u32 0, 4⟩
theorem ty74 : tyOf Try.prog 74 = some y74 := by kernel_rfl

/-- function 6: pub-mintmark/pub/btcdtxscript.DisasmString -/
def tys6 : Nat → Option Ty := fun t => find [(44, y44), (48, y48), (22, y22), (5, y5), (45, y45), (21, y21), (46, y46), (29, y29)] t
theorem ok6 : TysOk Try.prog tys6 := tysOk_of ⟨ty44, ty48, ty22, ty5, ty45, ty21, ty46, ty29, trivial⟩

/-- function 13: pub-mintmark/pub/btcdtxscript.MakeScriptTokenizer -/
def tys13 : Nat → Option Ty := fun t => find [(48, y48), (45, y45), (61, y61), (22, y22), (5, y5), (21, y21), (46, y46), (29, y29)] t
theorem ok13 : TysOk Try.prog tys13 := tysOk_of ⟨ty48, ty45, ty61, ty22, ty5, ty21, ty46, ty29, trivial⟩

/-- function 14: (*pub-mintmark/pub/btcdtxscript.ScriptTokenizer).Next -/
def tys14 : Nat → Option Ty := fun t => find [(48, y48), (22, y22), (5, y5), (45, y45), (21, y21), (46, y46), (29, y29), (70, y70), (9, y9), (3, y3), (61, y61), (72, y72), (74, y74)] t
theorem ok14 : TysOk Try.prog tys14 := tysOk_of ⟨ty48, ty22, ty5, ty45, ty21, ty46, ty29, ty70, ty9, ty3, ty61, ty72, ty74, trivial⟩

/-- function 16: (*pub-mintmark/pub/btcdtxscript.ScriptTokenizer).Data -/
def tys16 : Nat → Option Ty := fun t => find [(48, y48), (22, y22), (5, y5), (45, y45), (21, y21), (46, y46), (29, y29)] t
theorem ok16 : TysOk Try.prog tys16 := tysOk_of ⟨ty48, ty22, ty5, ty45, ty21, ty46, ty29, trivial⟩

/-- function 18: (*pub-mintmark/pub/btcdtxscript.ScriptTokenizer).Err -/
def tys18 : Nat → Option Ty := fun t => find [(48, y48), (22, y22), (5, y5), (45, y45), (21, y21), (46, y46), (29, y29)] t
theorem ok18 : TysOk Try.prog tys18 := tysOk_of ⟨ty48, ty22, ty5, ty45, ty21, ty46, ty29, trivial⟩

/-- function 19: (*pub-mintmark/pub/btcdtxscript.ScriptTokenizer).ByteIndex -/
def tys19 : Nat → Option Ty := fun t => find [(48, y48), (22, y22), (5, y5), (45, y45), (21, y21), (46, y46), (29, y29)] t
theorem ok19 : TysOk Try.prog tys19 := tysOk_of ⟨ty48, ty22, ty5, ty45, ty21, ty46, ty29, trivial⟩

/-- function 25: (*pub-mintmark/pub/btcdtxscript.ScriptTokenizer).Done -/
def tys25 : Nat → Option Ty := fun t => find [(48, y48), (22, y22), (5, y5), (45, y45), (21, y21), (46, y46), (29, y29), (3, y3)] t
theorem ok25 : TysOk Try.prog tys25 := tysOk_of ⟨ty48, ty22, ty5, ty45, ty21, ty46, ty29, ty3, trivial⟩
end Go.Proofs.Ythhlbpahndfdhaa.Tydg
