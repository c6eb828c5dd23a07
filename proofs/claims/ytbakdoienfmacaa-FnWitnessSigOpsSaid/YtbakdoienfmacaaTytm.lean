/- The types that some functions name, as the evaluator wants them. Printed by a program of my own (seatgen.py). -/
import Derived.Test.YtbakdoienfmacaaSl
import Derived.Test.YtbakdoienfmacaaProg
import Derived.KernelRfl
namespace Go.Proofs.Ytbakdoienfmacaa.Tytm
open Go Go.Se Go.Proofs

/-- int -/
def y3 : Ty := ⟨.int .i64, 1, false, .int .i64 0, 8⟩
theorem ty3 : tyOf Try.prog 3 = some y3 := by kernel_rfl
/-- bool -/
def y4 : Ty := ⟨.bool, 1, false, .bool false, 1⟩
theorem ty4 : tyOf Try.prog 4 = some y4 := by kernel_rfl
/-- uint8 -/
def y5 : Ty := ⟨.int .u8, 1, false, .int .u8 0, 1⟩
theorem ty5 : tyOf Try.prog 5 = some y5 := by kernel_rfl
/-- string -/
def y9 : Ty := ⟨.str, 1, false, .string ByteArray.empty, 16⟩
theorem ty9 : tyOf Try.prog 9 = some y9 := by kernel_rfl
/-- int32 -/
def y21 : Ty := ⟨.int .i32, 1, false, .int .i32 0, 4⟩
theorem ty21 : tyOf Try.prog 21 = some y21 := by kernel_rfl
/-- []uint8 -/
def y22 : Ty := ⟨.slc 5, 1, false, .slice none 0 0, 24⟩
theorem ty22 : tyOf Try.prog 22 = some y22 := by kernel_rfl
/-- [][]uint8 -/
def y28 : Ty := ⟨.slc 22, 1, false, .slice none 0 0, 24⟩
theorem ty28 : tyOf Try.prog 28 = some y28 := by kernel_rfl
/-- []spec.Token -/
def y37 : Ty := ⟨.slc 41, 1, false, .slice none 0 0, 24⟩
theorem ty37 : tyOf Try.prog 37 = some y37 := by kernel_rfl
/-- spec.Token -/
def y41 : Ty := ⟨.stc [(0, 3), (1, 22), (2, 3)], 3, true, .agg #[.int .i64 0, .slice none 0 0, .int .i64 0], 40⟩
theorem ty41 : tyOf Try.prog 41 = some y41 := by kernel_rfl
/-- error -/
def y45 : Ty := ⟨.ifc, 1, false, .nilIface, 16⟩
theorem ty45 : tyOf Try.prog 45 = some y45 := by kernel_rfl
/-- txscript.multiSigDetails -/
def y61 : Ty := ⟨.stc [(0, 3), (1, 3), (2, 28), (3, 4)], 4, true, .agg #[.int .i64 0, .int .i64 0, .slice none 0 0, .bool false], 48⟩
theorem ty61 : tyOf Try.prog 61 = some y61 := by kernel_rfl
/-- uint16 -/
def y63 : Ty := ⟨.int .u16, 1, false, .int .u16 0, 2⟩
theorem ty63 : tyOf Try.prog 63 = some y63 := by kernel_rfl
/-- txscript.ErrorCode -/
def y64 : Ty := ⟨.int .i64, 1, false, .int .i64 0, 8⟩
theorem ty64 : tyOf Try.prog 64 = some y64 := by kernel_rfl
/-- txscript.Error -/
def y66 : Ty := ⟨.stc [(0, 64), (1, 9)], 2, true, .agg #[.int .i64 0, .string ByteArray.empty], 24⟩
theorem ty66 : tyOf Try.prog 66 = some y66 := by kernel_rfl
/-- *txscript.opcode -/
def y76 : Ty := ⟨.ptr, 1, false, .pointer none, 8⟩
theorem ty76 : tyOf Try.prog 76 = some y76 := by kernel_rfl
/-- txscript.ScriptTokenizer -/
def y78 : Ty := ⟨.stc [(0, 22), (1, 63), (2, 21), (3, 21), (4, 76), (5, 22), (6, 45)], 7, true, .agg #[.slice none 0 0, .int .u16 0, .int .i32 0, .int .i32 0, .pointer none, .slice none 0 0, .nilIface], 88⟩
theorem ty78 : tyOf Try.prog 78 = some y78 := by kernel_rfl
/-- txscript.opcode -/
def y104 : Ty := ⟨.stc [(0, 5), (1, 9), (2, 3)], 3, true, .agg #[.int .u8 0, .string ByteArray.empty, .int .i64 0], 32⟩
theorem ty104 : tyOf Try.prog 104 = some y104 := by kernel_rfl

/-- function 3: pub-mintmark/laws.FnMultiStats -/
def tys3 : Nat → Option Ty := fun t => find [(22, y22), (5, y5), (3, y3)] t
theorem ok3 : TysOk Try.prog tys3 := tysOk_of ⟨ty22, ty5, ty3, trivial⟩

/-- function 6: pub-mintmark/spec.Many -/
def tys6 : Nat → Option Ty := fun t => find [(37, y37), (41, y41), (3, y3), (22, y22), (5, y5)] t
theorem ok6 : TysOk Try.prog tys6 := tysOk_of ⟨ty37, ty41, ty3, ty22, ty5, trivial⟩

/-- function 7: pub-mintmark/impl.MultiStats -/
def tys7 : Nat → Option Ty := fun t => find [] t
theorem ok7 : TysOk Try.prog tys7 := tysOk_of trivial

/-- function 15: pub-mintmark/spec.Small -/
def tys15 : Nat → Option Ty := fun t => find [(3, y3)] t
theorem ok15 : TysOk Try.prog tys15 := tysOk_of ⟨ty3, trivial⟩

/-- function 16: pub-mintmark/pub/btcdtxscript.CalcMultiSigStats -/
def tys16 : Nat → Option Ty := fun t => find [(61, y61), (3, y3), (28, y28), (22, y22), (5, y5), (4, y4), (66, y66)] t
theorem ok16 : TysOk Try.prog tys16 := tysOk_of ⟨ty61, ty3, ty28, ty22, ty5, ty4, ty66, trivial⟩

/-- function 17: pub-mintmark/impl.kindOf -/
def tys17 : Nat → Option Ty := fun t => find [(45, y45), (66, y66), (64, y64), (9, y9), (3, y3)] t
theorem ok17 : TysOk Try.prog tys17 := tysOk_of ⟨ty45, ty66, ty64, ty9, ty3, trivial⟩

/-- function 28: pub-mintmark/pub/btcdtxscript.extractMultisigScriptDetails -/
def tys28 : Nat → Option Ty := fun t => find [(61, y61), (63, y63), (3, y3), (28, y28), (22, y22), (5, y5), (4, y4), (78, y78), (21, y21)] t
theorem ok28 : TysOk Try.prog tys28 := tysOk_of ⟨ty61, ty63, ty3, ty28, ty22, ty5, ty4, ty78, ty21, trivial⟩

/-- function 29: pub-mintmark/pub/btcdtxscript.scriptError -/
def tys29 : Nat → Option Ty := fun t => find [(66, y66), (64, y64), (9, y9)] t
theorem ok29 : TysOk Try.prog tys29 := tysOk_of ⟨ty66, ty64, ty9, trivial⟩

/-- function 39: pub-mintmark/pub/btcdtxscript.MakeScriptTokenizer -/
def tys39 : Nat → Option Ty := fun t => find [(78, y78), (63, y63), (66, y66), (22, y22), (5, y5), (21, y21), (76, y76), (45, y45)] t
theorem ok39 : TysOk Try.prog tys39 := tysOk_of ⟨ty78, ty63, ty66, ty22, ty5, ty21, ty76, ty45, trivial⟩

/-- function 42: (*pub-mintmark/pub/btcdtxscript.ScriptTokenizer).Data -/
def tys42 : Nat → Option Ty := fun t => find [(78, y78), (22, y22), (5, y5), (63, y63), (21, y21), (76, y76), (45, y45)] t
theorem ok42 : TysOk Try.prog tys42 := tysOk_of ⟨ty78, ty22, ty5, ty63, ty21, ty76, ty45, trivial⟩

/-- function 45: (*pub-mintmark/pub/btcdtxscript.ScriptTokenizer).ByteIndex -/
def tys45 : Nat → Option Ty := fun t => find [(78, y78), (22, y22), (5, y5), (63, y63), (21, y21), (76, y76), (45, y45)] t
theorem ok45 : TysOk Try.prog tys45 := tysOk_of ⟨ty78, ty22, ty5, ty63, ty21, ty76, ty45, trivial⟩

/-- function 49: pub-mintmark/pub/btcdtxscript.IsSmallInt -/
def tys49 : Nat → Option Ty := fun t => find [(5, y5)] t
theorem ok49 : TysOk Try.prog tys49 := tysOk_of ⟨ty5, trivial⟩

/-- function 50: (*pub-mintmark/pub/btcdtxscript.ScriptTokenizer).Opcode -/
def tys50 : Nat → Option Ty := fun t => find [(78, y78), (22, y22), (5, y5), (63, y63), (21, y21), (76, y76), (45, y45), (104, y104), (9, y9), (3, y3)] t
theorem ok50 : TysOk Try.prog tys50 := tysOk_of ⟨ty78, ty22, ty5, ty63, ty21, ty76, ty45, ty104, ty9, ty3, trivial⟩

/-- function 51: pub-mintmark/pub/btcdtxscript.AsSmallInt -/
def tys51 : Nat → Option Ty := fun t => find [(5, y5), (3, y3)] t
theorem ok51 : TysOk Try.prog tys51 := tysOk_of ⟨ty5, ty3, trivial⟩

/-- function 52: pub-mintmark/pub/btcdtxscript.isStrictPubKeyEncoding -/
def tys52 : Nat → Option Ty := fun t => find [(22, y22), (5, y5), (3, y3)] t
theorem ok52 : TysOk Try.prog tys52 := tysOk_of ⟨ty22, ty5, ty3, trivial⟩

/-- function 53: (*pub-mintmark/pub/btcdtxscript.ScriptTokenizer).Done -/
def tys53 : Nat → Option Ty := fun t => find [(78, y78), (22, y22), (5, y5), (63, y63), (21, y21), (76, y76), (45, y45), (3, y3)] t
theorem ok53 : TysOk Try.prog tys53 := tysOk_of ⟨ty78, ty22, ty5, ty63, ty21, ty76, ty45, ty3, trivial⟩

/-- function 54: (*pub-mintmark/pub/btcdtxscript.ScriptTokenizer).Script -/
def tys54 : Nat → Option Ty := fun t => find [(78, y78), (22, y22), (5, y5), (63, y63), (21, y21), (76, y76), (45, y45)] t
theorem ok54 : TysOk Try.prog tys54 := tysOk_of ⟨ty78, ty22, ty5, ty63, ty21, ty76, ty45, trivial⟩
end Go.Proofs.Ytbakdoienfmacaa.Tytm
