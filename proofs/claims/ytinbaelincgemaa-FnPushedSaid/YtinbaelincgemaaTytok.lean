/- The types that some functions name, as the evaluator wants them. Printed by a program of my own (seatgen.py). -/
import Derived.Test.YtinbaelincgemaaSl
import Derived.Test.YtinbaelincgemaaProg
import Derived.KernelRfl
namespace Go.Proofs.Ytinbaelincgemaa.Tytok
open Go Go.Se Go.Proofs

/-- int -/
def y3 : Ty := ⟨.int .i64, 1, false, .int .i64 0, 8⟩
theorem ty3 : tyOf Try.prog 3 = some y3 := by kernel_rfl
/-- bool -/
def y4 : Ty := ⟨.bool, 1, false, .bool false, 1⟩
theorem ty4 : tyOf Try.prog 4 = some y4 := by kernel_rfl
/-- uint8 -/
def y5 : Ty := ⟨.int .u8, 1, false, .int .u8 0, 1⟩
theorem ty5 : tyOf Try.prog 5 = some y5 := by kernel_rfl
/-- string -/
def y9 : Ty := ⟨.str, 1, false, .string ByteArray.empty, 16⟩
theorem ty9 : tyOf Try.prog 9 = some y9 := by kernel_rfl
/-- int32 -/
def y21 : Ty := ⟨.int .i32, 1, false, .int .i32 0, 4⟩
theorem ty21 : tyOf Try.prog 21 = some y21 := by kernel_rfl
/-- []uint8 -/
def y22 : Ty := ⟨.slc 5, 1, false, .slice none 0 0, 24⟩
theorem ty22 : tyOf Try.prog 22 = some y22 := by kernel_rfl
/-- uint32 -/
def y24 : Ty := ⟨.int .u32, 1, false, .int .u32 0, 4⟩
theorem ty24 : tyOf Try.prog 24 = some y24 := by kernel_rfl
/-- [][]uint8 -/
def y33 : Ty := ⟨.slc 22, 1, false, .slice none 0 0, 24⟩
theorem ty33 : tyOf Try.prog 33 = some y33 := by kernel_rfl
/-- []spec.Token -/
def y46 : Ty := ⟨.slc 53, 1, false, .slice none 0 0, 24⟩
theorem ty46 : tyOf Try.prog 46 = some y46 := by kernel_rfl
/-- []int -/
def y49 : Ty := ⟨.slc 3, 1, false, .slice none 0 0, 24⟩
theorem ty49 : tyOf Try.prog 49 = some y49 := by kernel_rfl
/-- spec.Token -/
def y53 : Ty := ⟨.stc [(0, 3), (1, 22), (2, 3)], 3, true, .agg #[.int .i64 0, .slice none 0 0, .int .i64 0], 40⟩
theorem ty53 : tyOf Try.prog 53 = some y53 := by kernel_rfl
/-- error -/
def y67 : Ty := ⟨.ifc, 1, false, .nilIface, 16⟩
theorem ty67 : tyOf Try.prog 67 = some y67 := by kernel_rfl
/-- uint16 -/
def y76 : Ty := ⟨.int .u16, 1, false, .int .u16 0, 2⟩
theorem ty76 : tyOf Try.prog 76 = some y76 := by kernel_rfl
/-- *txscript.opcode -/
def y77 : Ty := ⟨.ptr, 1, false, .pointer none, 8⟩
theorem ty77 : tyOf Try.prog 77 = some y77 := by kernel_rfl
/-- txscript.ScriptTokenizer -/
def y79 : Ty := ⟨.stc [(0, 22), (1, 76), (2, 21), (3, 21), (4, 77), (5, 22), (6, 67)], 7, true, .agg #[.slice none 0 0, .int .u16 0, .int .i32 0, .int .i32 0, .pointer none, .slice none 0 0, .nilIface], 88⟩
theorem ty79 : tyOf Try.prog 79 = some y79 := by kernel_rfl
/-- binary.littleEndian -/
def y111 : Ty := ⟨.stc [], 0, true, .agg #[], 0⟩
theorem ty111 : tyOf Try.prog 111 = some y111 := by kernel_rfl
/-- txscript.ErrorCode -/
def y117 : Ty := ⟨.int .i64, 1, false, .int .i64 0, 8⟩
theorem ty117 : tyOf Try.prog 117 = some y117 := by kernel_rfl
/-- txscript.Error -/
def y119 : Ty := ⟨.stc [(0, 117), (1, 9)], 2, true, .agg #[.int .i64 0, .string ByteArray.empty], 24⟩
theorem ty119 : tyOf Try.prog 119 = some y119 := by kernel_rfl
/-- txscript.opcode -/
def y124 : Ty := ⟨.stc [(0, 5), (1, 9), (2, 3)], 3, true, .agg #[.int .u8 0, .string ByteArray.empty, .int .i64 0], 32⟩
theorem ty124 : tyOf Try.prog 124 = some y124 := by kernel_rfl

/-- function 5: pub-mintmark/laws.FnUnspendableForm -/
def tys5 : Nat → Option Ty := fun t => find [(22, y22), (5, y5), (3, y3), (4, y4)] t
theorem ok5 : TysOk Try.prog tys5 := tysOk_of ⟨ty22, ty5, ty3, ty4, trivial⟩

/-- function 6: pub-mintmark/laws.FnTokens -/
def tys6 : Nat → Option Ty := fun t => find [(22, y22), (5, y5), (3, y3), (49, y49), (46, y46), (53, y53), (33, y33), (4, y4)] t
theorem ok6 : TysOk Try.prog tys6 := tysOk_of ⟨ty22, ty5, ty3, ty49, ty46, ty53, ty33, ty4, trivial⟩

/-- function 7: pub-mintmark/laws.FnPushed -/
def tys7 : Nat → Option Ty := fun t => find [(22, y22), (5, y5), (3, y3), (4, y4), (46, y46), (53, y53), (33, y33)] t
theorem ok7 : TysOk Try.prog tys7 := tysOk_of ⟨ty22, ty5, ty3, ty4, ty46, ty53, ty33, trivial⟩

/-- function 15: pub-mintmark/spec.Whole -/
def tys15 : Nat → Option Ty := fun t => find [(3, y3)] t
theorem ok15 : TysOk Try.prog tys15 := tysOk_of ⟨ty3, trivial⟩

/-- function 16: pub-mintmark/impl.IsUnspendable -/
def tys16 : Nat → Option Ty := fun t => find [] t
theorem ok16 : TysOk Try.prog tys16 := tysOk_of trivial

/-- function 17: pub-mintmark/spec.Tokens -/
def tys17 : Nat → Option Ty := fun t => find [(22, y22), (5, y5), (3, y3), (53, y53), (46, y46)] t
theorem ok17 : TysOk Try.prog tys17 := tysOk_of ⟨ty22, ty5, ty3, ty53, ty46, trivial⟩

/-- function 18: pub-mintmark/impl.Tokens -/
def tys18 : Nat → Option Ty := fun t => find [(79, y79), (5, y5), (3, y3), (49, y49), (33, y33), (22, y22), (21, y21)] t
theorem ok18 : TysOk Try.prog tys18 := tysOk_of ⟨ty79, ty5, ty3, ty49, ty33, ty22, ty21, trivial⟩

/-- function 19: pub-mintmark/laws.same -/
def tys19 : Nat → Option Ty := fun t => find [(22, y22), (5, y5), (3, y3)] t
theorem ok19 : TysOk Try.prog tys19 := tysOk_of ⟨ty22, ty5, ty3, trivial⟩

/-- function 20: pub-mintmark/impl.Pushed -/
def tys20 : Nat → Option Ty := fun t => find [] t
theorem ok20 : TysOk Try.prog tys20 := tysOk_of trivial

/-- function 21: pub-mintmark/laws.sameAll -/
def tys21 : Nat → Option Ty := fun t => find [(33, y33), (22, y22), (5, y5), (3, y3)] t
theorem ok21 : TysOk Try.prog tys21 := tysOk_of ⟨ty33, ty22, ty5, ty3, trivial⟩

/-- function 26: pub-mintmark/impl.copied -/
def tys26 : Nat → Option Ty := fun t => find [(22, y22), (5, y5)] t
theorem ok26 : TysOk Try.prog tys26 := tysOk_of ⟨ty22, ty5, trivial⟩

/-- function 33: pub-mintmark/pub/btcdtxscript.IsUnspendable -/
def tys33 : Nat → Option Ty := fun t => find [(22, y22), (5, y5), (3, y3), (67, y67)] t
theorem ok33 : TysOk Try.prog tys33 := tysOk_of ⟨ty22, ty5, ty3, ty67, trivial⟩

/-- function 34: pub-mintmark/spec.word -/
def tys34 : Nat → Option Ty := fun t => find [(22, y22), (5, y5), (3, y3)] t
theorem ok34 : TysOk Try.prog tys34 := tysOk_of ⟨ty22, ty5, ty3, trivial⟩

/-- function 35: pub-mintmark/pub/btcdtxscript.MakeScriptTokenizer -/
def tys35 : Nat → Option Ty := fun t => find [(79, y79), (76, y76), (119, y119), (22, y22), (5, y5), (21, y21), (77, y77), (67, y67)] t
theorem ok35 : TysOk Try.prog tys35 := tysOk_of ⟨ty79, ty76, ty119, ty22, ty5, ty21, ty77, ty67, trivial⟩

/-- function 36: (*pub-mintmark/pub/btcdtxscript.ScriptTokenizer).Next -/
def tys36 : Nat → Option Ty := fun t => find [(79, y79), (22, y22), (5, y5), (76, y76), (21, y21), (77, y77), (67, y67), (124, y124), (9, y9), (3, y3), (119, y119), (111, y111), (24, y24)] t
theorem ok36 : TysOk Try.prog tys36 := tysOk_of ⟨ty79, ty22, ty5, ty76, ty21, ty77, ty67, ty124, ty9, ty3, ty119, ty111, ty24, trivial⟩

/-- function 37: (*pub-mintmark/pub/btcdtxscript.ScriptTokenizer).Opcode -/
def tys37 : Nat → Option Ty := fun t => find [(79, y79), (22, y22), (5, y5), (76, y76), (21, y21), (77, y77), (67, y67), (124, y124), (9, y9), (3, y3)] t
theorem ok37 : TysOk Try.prog tys37 := tysOk_of ⟨ty79, ty22, ty5, ty76, ty21, ty77, ty67, ty124, ty9, ty3, trivial⟩

/-- function 38: (*pub-mintmark/pub/btcdtxscript.ScriptTokenizer).Data -/
def tys38 : Nat → Option Ty := fun t => find [(79, y79), (22, y22), (5, y5), (76, y76), (21, y21), (77, y77), (67, y67)] t
theorem ok38 : TysOk Try.prog tys38 := tysOk_of ⟨ty79, ty22, ty5, ty76, ty21, ty77, ty67, trivial⟩

/-- function 39: (*pub-mintmark/pub/btcdtxscript.ScriptTokenizer).ByteIndex -/
def tys39 : Nat → Option Ty := fun t => find [(79, y79), (22, y22), (5, y5), (76, y76), (21, y21), (77, y77), (67, y67)] t
theorem ok39 : TysOk Try.prog tys39 := tysOk_of ⟨ty79, ty22, ty5, ty76, ty21, ty77, ty67, trivial⟩

/-- function 40: pub-mintmark/impl.kindOf -/
def tys40 : Nat → Option Ty := fun t => find [(67, y67), (119, y119), (117, y117), (9, y9), (3, y3)] t
theorem ok40 : TysOk Try.prog tys40 := tysOk_of ⟨ty67, ty119, ty117, ty9, ty3, trivial⟩

/-- function 41: (*pub-mintmark/pub/btcdtxscript.ScriptTokenizer).Err -/
def tys41 : Nat → Option Ty := fun t => find [(79, y79), (22, y22), (5, y5), (76, y76), (21, y21), (77, y77), (67, y67)] t
theorem ok41 : TysOk Try.prog tys41 := tysOk_of ⟨ty79, ty22, ty5, ty76, ty21, ty77, ty67, trivial⟩

/-- function 42: pub-mintmark/pub/btcdtxscript.PushedData -/
def tys42 : Nat → Option Ty := fun t => find [(79, y79), (22, y22), (5, y5), (33, y33), (67, y67)] t
theorem ok42 : TysOk Try.prog tys42 := tysOk_of ⟨ty79, ty22, ty5, ty33, ty67, trivial⟩

/-- function 43: pub-mintmark/impl.copies -/
def tys43 : Nat → Option Ty := fun t => find [(33, y33), (22, y22), (5, y5), (3, y3)] t
theorem ok43 : TysOk Try.prog tys43 := tysOk_of ⟨ty33, ty22, ty5, ty3, trivial⟩

/-- function 51: (encoding/binary.littleEndian).Uint32 -/
def tys51 : Nat → Option Ty := fun t => find [(111, y111), (22, y22), (5, y5), (24, y24)] t
theorem ok51 : TysOk Try.prog tys51 := tysOk_of ⟨ty111, ty22, ty5, ty24, trivial⟩

/-- function 55: pub-mintmark/pub/btcdtxscript.checkScriptParses -/
def tys55 : Nat → Option Ty := fun t => find [(79, y79)] t
theorem ok55 : TysOk Try.prog tys55 := tysOk_of ⟨ty79, trivial⟩

/-- function 56: pub-mintmark/pub/btcdtxscript.scriptError -/
def tys56 : Nat → Option Ty := fun t => find [(119, y119), (117, y117), (9, y9)] t
theorem ok56 : TysOk Try.prog tys56 := tysOk_of ⟨ty119, ty117, ty9, trivial⟩

/-- function 57: (*pub-mintmark/pub/btcdtxscript.ScriptTokenizer).Done -/
def tys57 : Nat → Option Ty := fun t => find [(79, y79), (22, y22), (5, y5), (76, y76), (21, y21), (77, y77), (67, y67), (3, y3)] t
theorem ok57 : TysOk Try.prog tys57 := tysOk_of ⟨ty79, ty22, ty5, ty76, ty21, ty77, ty67, ty3, trivial⟩

/-- function 58: pub-mintmark/pub/btcdtxscript.opcodeOf -/
def tys58 : Nat → Option Ty := fun t => find [(77, y77), (124, y124), (5, y5), (9, y9), (3, y3), (4, y4)] t
theorem ok58 : TysOk Try.prog tys58 := tysOk_of ⟨ty77, ty124, ty5, ty9, ty3, ty4, trivial⟩

/-- function 59: (encoding/binary.littleEndian).Uint16 -/
def tys59 : Nat → Option Ty := fun t => find [(111, y111), (22, y22), (5, y5), (76, y76)] t
theorem ok59 : TysOk Try.prog tys59 := tysOk_of ⟨ty111, ty22, ty5, ty76, trivial⟩
end Go.Proofs.Ytinbaelincgemaa.Tytok
