/- The types that some functions name, as the evaluator wants them. Printed by a program of my own (seatgen.py). -/
import Derived.Test.YtbakdoienfmacaaSl
import Derived.Test.YtbakdoienfmacaaProg
import Derived.KernelRfl
namespace Go.Proofs.Ytbakdoienfmacaa.Tytok
open Go Go.Se Go.Proofs

/-- int -/
def y3 : Ty := ⟨.int .i64, 1, false, .int .i64 0, 8⟩
theorem ty3 : tyOf Try.prog 3 = some y3 := by kernel_rfl
/-- bool -/
def y4 : Ty := ⟨.bool, 1, false, .bool false, 1⟩
theorem ty4 : tyOf Try.prog 4 = some y4 := by kernel_rfl
/-- uint8 -/
def y5 : Ty := ⟨.int .u8, 1, false, .int .u8 0, 1⟩
theorem ty5 : tyOf Try.prog 5 = some y5 := by kernel_rfl
/-- string -/
def y9 : Ty := ⟨.str, 1, false, .string ByteArray.empty, 16⟩
theorem ty9 : tyOf Try.prog 9 = some y9 := by kernel_rfl
/-- int32 -/
def y21 : Ty := ⟨.int .i32, 1, false, .int .i32 0, 4⟩
theorem ty21 : tyOf Try.prog 21 = some y21 := by kernel_rfl
/-- []uint8 -/
def y22 : Ty := ⟨.slc 5, 1, false, .slice none 0 0, 24⟩
theorem ty22 : tyOf Try.prog 22 = some y22 := by kernel_rfl
/-- []spec.Token -/
def y37 : Ty := ⟨.slc 41, 1, false, .slice none 0 0, 24⟩
theorem ty37 : tyOf Try.prog 37 = some y37 := by kernel_rfl
/-- spec.Token -/
def y41 : Ty := ⟨.stc [(0, 3), (1, 22), (2, 3)], 3, true, .agg #[.int .i64 0, .slice none 0 0, .int .i64 0], 40⟩
theorem ty41 : tyOf Try.prog 41 = some y41 := by kernel_rfl
/-- error -/
def y45 : Ty := ⟨.ifc, 1, false, .nilIface, 16⟩
theorem ty45 : tyOf Try.prog 45 = some y45 := by kernel_rfl
/-- uint16 -/
def y63 : Ty := ⟨.int .u16, 1, false, .int .u16 0, 2⟩
theorem ty63 : tyOf Try.prog 63 = some y63 := by kernel_rfl
/-- txscript.ErrorCode -/
def y64 : Ty := ⟨.int .i64, 1, false, .int .i64 0, 8⟩
theorem ty64 : tyOf Try.prog 64 = some y64 := by kernel_rfl
/-- txscript.Error -/
def y66 : Ty := ⟨.stc [(0, 64), (1, 9)], 2, true, .agg #[.int .i64 0, .string ByteArray.empty], 24⟩
theorem ty66 : tyOf Try.prog 66 = some y66 := by kernel_rfl
/-- *txscript.opcode -/
def y76 : Ty := ⟨.ptr, 1, false, .pointer none, 8⟩
theorem ty76 : tyOf Try.prog 76 = some y76 := by kernel_rfl
/-- txscript.ScriptTokenizer -/
def y78 : Ty := ⟨.stc [(0, 22), (1, 63), (2, 21), (3, 21), (4, 76), (5, 22), (6, 45)], 7, true, .agg #[.slice none 0 0, .int .u16 0, .int .i32 0, .int .i32 0, .pointer none, .slice none 0 0, .nilIface], 88⟩
theorem ty78 : tyOf Try.prog 78 = some y78 := by kernel_rfl
/-- txscript.opcode -/
def y104 : Ty := ⟨.stc [(0, 5), (1, 9), (2, 3)], 3, true, .agg #[.int .u8 0, .string ByteArray.empty, .int .i64 0], 32⟩
theorem ty104 : tyOf Try.prog 104 = some y104 := by kernel_rfl
/-- binary.littleEndian -/
def y106 : Ty := ⟨.stc [], 0, true, .agg #[], 0⟩
theorem ty106 : tyOf Try.prog 106 = some y106 := by kernel_rfl
/-- uint32 -/
def y108 : Ty := ⟨.int .u32, 1, false, .int .u32 0, 4⟩
theorem ty108 : tyOf Try.prog 108 = some y108 := by kernel_rfl

/-- function 14: pub-mintmark/spec.Tokens -/
def tys14 : Nat → Option Ty := fun t => find [(22, y22), (5, y5), (3, y3), (41, y41), (37, y37)] t
theorem ok14 : TysOk Try.prog tys14 := tysOk_of ⟨ty22, ty5, ty3, ty41, ty37, trivial⟩

/-- function 27: pub-mintmark/spec.word -/
def tys27 : Nat → Option Ty := fun t => find [(22, y22), (5, y5), (3, y3)] t
theorem ok27 : TysOk Try.prog tys27 := tysOk_of ⟨ty22, ty5, ty3, trivial⟩

/-- function 29: pub-mintmark/pub/btcdtxscript.scriptError -/
def tys29 : Nat → Option Ty := fun t => find [(66, y66), (64, y64), (9, y9)] t
theorem ok29 : TysOk Try.prog tys29 := tysOk_of ⟨ty66, ty64, ty9, trivial⟩

/-- function 40: (*pub-mintmark/pub/btcdtxscript.ScriptTokenizer).Next -/
def tys40 : Nat → Option Ty := fun t => find [(78, y78), (22, y22), (5, y5), (63, y63), (21, y21), (76, y76), (45, y45), (104, y104), (9, y9), (3, y3), (66, y66), (106, y106), (108, y108)] t
theorem ok40 : TysOk Try.prog tys40 := tysOk_of ⟨ty78, ty22, ty5, ty63, ty21, ty76, ty45, ty104, ty9, ty3, ty66, ty106, ty108, trivial⟩

/-- function 53: (*pub-mintmark/pub/btcdtxscript.ScriptTokenizer).Done -/
def tys53 : Nat → Option Ty := fun t => find [(78, y78), (22, y22), (5, y5), (63, y63), (21, y21), (76, y76), (45, y45), (3, y3)] t
theorem ok53 : TysOk Try.prog tys53 := tysOk_of ⟨ty78, ty22, ty5, ty63, ty21, ty76, ty45, ty3, trivial⟩

/-- function 62: pub-mintmark/pub/btcdtxscript.opcodeOf -/
def tys62 : Nat → Option Ty := fun t => find [(76, y76), (104, y104), (5, y5), (9, y9), (3, y3), (4, y4)] t
theorem ok62 : TysOk Try.prog tys62 := tysOk_of ⟨ty76, ty104, ty5, ty9, ty3, ty4, trivial⟩

/-- function 63: (encoding/binary.littleEndian).Uint16 -/
def tys63 : Nat → Option Ty := fun t => find [(106, y106), (22, y22), (5, y5), (63, y63)] t
theorem ok63 : TysOk Try.prog tys63 := tysOk_of ⟨ty106, ty22, ty5, ty63, trivial⟩

/-- function 64: (encoding/binary.littleEndian).Uint32 -/
def tys64 : Nat → Option Ty := fun t => find [(106, y106), (22, y22), (5, y5), (108, y108)] t
theorem ok64 : TysOk Try.prog tys64 := tysOk_of ⟨ty106, ty22, ty5, ty108, trivial⟩
end Go.Proofs.Ytbakdoienfmacaa.Tytok
