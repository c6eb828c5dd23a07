/- The types that some functions name, as the evaluator wants them. Printed by a program of my own (seatgen.py). -/
import Derived.Test.YtbakdoienfmacaaSl
import Derived.Test.YtbakdoienfmacaaProg
import Derived.KernelRfl
namespace Go.Proofs.Ytbakdoienfmacaa.Tytw
open Go Go.Se Go.Proofs

/-- int -/
def y3 : Ty := ⟨.int .i64, 1, false, .int .i64 0, 8⟩
theorem ty3 : tyOf Try.prog 3 = some y3 := by kernel_rfl
/-- uint8 -/
def y5 : Ty := ⟨.int .u8, 1, false, .int .u8 0, 1⟩
theorem ty5 : tyOf Try.prog 5 = some y5 := by kernel_rfl
/-- string -/
def y9 : Ty := ⟨.str, 1, false, .string ByteArray.empty, 16⟩
theorem ty9 : tyOf Try.prog 9 = some y9 := by kernel_rfl
/-- int32 -/
def y21 : Ty := ⟨.int .i32, 1, false, .int .i32 0, 4⟩
theorem ty21 : tyOf Try.prog 21 = some y21 := by kernel_rfl
/-- []uint8 -/
def y22 : Ty := ⟨.slc 5, 1, false, .slice none 0 0, 24⟩
theorem ty22 : tyOf Try.prog 22 = some y22 := by kernel_rfl
/-- [][]uint8 -/
def y28 : Ty := ⟨.slc 22, 1, false, .slice none 0 0, 24⟩
theorem ty28 : tyOf Try.prog 28 = some y28 := by kernel_rfl
/-- []spec.Token -/
def y37 : Ty := ⟨.slc 41, 1, false, .slice none 0 0, 24⟩
theorem ty37 : tyOf Try.prog 37 = some y37 := by kernel_rfl
/-- spec.Token -/
def y41 : Ty := ⟨.stc [(0, 3), (1, 22), (2, 3)], 3, true, .agg #[.int .i64 0, .slice none 0 0, .int .i64 0], 40⟩
theorem ty41 : tyOf Try.prog 41 = some y41 := by kernel_rfl
/-- error -/
def y45 : Ty := ⟨.ifc, 1, false, .nilIface, 16⟩
theorem ty45 : tyOf Try.prog 45 = some y45 := by kernel_rfl
/-- uint16 -/
def y63 : Ty := ⟨.int .u16, 1, false, .int .u16 0, 2⟩
theorem ty63 : tyOf Try.prog 63 = some y63 := by kernel_rfl
/-- txscript.Error -/
def y66 : Ty := ⟨.stc [(0, 64), (1, 9)], 2, true, .agg #[.int .i64 0, .string ByteArray.empty], 24⟩
theorem ty66 : tyOf Try.prog 66 = some y66 := by kernel_rfl
/-- wire.TxWitness -/
def y69 : Ty := ⟨.slc 22, 1, false, .slice none 0 0, 24⟩
theorem ty69 : tyOf Try.prog 69 = some y69 := by kernel_rfl
/-- *txscript.opcode -/
def y76 : Ty := ⟨.ptr, 1, false, .pointer none, 8⟩
theorem ty76 : tyOf Try.prog 76 = some y76 := by kernel_rfl
/-- txscript.ScriptTokenizer -/
def y78 : Ty := ⟨.stc [(0, 22), (1, 63), (2, 21), (3, 21), (4, 76), (5, 22), (6, 45)], 7, true, .agg #[.slice none 0 0, .int .u16 0, .int .i32 0, .int .i32 0, .pointer none, .slice none 0 0, .nilIface], 88⟩
theorem ty78 : tyOf Try.prog 78 = some y78 := by kernel_rfl
/-- []int -/
def y98 : Ty := ⟨.slc 3, 1, false, .slice none 0 0, 24⟩
theorem ty98 : tyOf Try.prog 98 = some y98 := by kernel_rfl
/-- txscript.opcode -/
def y104 : Ty := ⟨.stc [(0, 5), (1, 9), (2, 3)], 3, true, .agg #[.int .u8 0, .string ByteArray.empty, .int .i64 0], 32⟩
theorem ty104 : tyOf Try.prog 104 = some y104 := by kernel_rfl

/-- function 4: pub-mintmark/laws.FnWitnessSigOps -/
def tys4 : Nat → Option Ty := fun t => find [(22, y22), (5, y5), (3, y3), (28, y28)] t
theorem ok4 : TysOk Try.prog tys4 := tysOk_of ⟨ty22, ty5, ty3, ty28, trivial⟩

/-- function 8: pub-mintmark/laws.zzFits5 -/
def tys8 : Nat → Option Ty := fun t => find [(28, y28), (22, y22), (5, y5), (3, y3)] t
theorem ok8 : TysOk Try.prog tys8 := tysOk_of ⟨ty28, ty22, ty5, ty3, trivial⟩

/-- function 9: pub-mintmark/laws.more -/
def tys9 : Nat → Option Ty := fun t => find [(3, y3)] t
theorem ok9 : TysOk Try.prog tys9 := tysOk_of ⟨ty3, trivial⟩

/-- function 10: pub-mintmark/impl.WitnessSigOps -/
def tys10 : Nat → Option Ty := fun t => find [] t
theorem ok10 : TysOk Try.prog tys10 := tysOk_of trivial

/-- function 11: pub-mintmark/spec.WitnessSigOps -/
def tys11 : Nat → Option Ty := fun t => find [] t
theorem ok11 : TysOk Try.prog tys11 := tysOk_of trivial

/-- function 18: pub-mintmark/pub/btcdtxscript.GetWitnessSigOpCount -/
def tys18 : Nat → Option Ty := fun t => find [(22, y22), (5, y5), (3, y3)] t
theorem ok18 : TysOk Try.prog tys18 := tysOk_of ⟨ty22, ty5, ty3, trivial⟩

/-- function 19: pub-mintmark/spec.Program -/
def tys19 : Nat → Option Ty := fun t => find [(3, y3), (37, y37), (41, y41), (22, y22), (5, y5)] t
theorem ok19 : TysOk Try.prog tys19 := tysOk_of ⟨ty3, ty37, ty41, ty22, ty5, trivial⟩

/-- function 20: pub-mintmark/spec.programSigOps -/
def tys20 : Nat → Option Ty := fun t => find [(28, y28), (22, y22), (5, y5), (3, y3)] t
theorem ok20 : TysOk Try.prog tys20 := tysOk_of ⟨ty28, ty22, ty5, ty3, trivial⟩

/-- function 21: pub-mintmark/spec.PaysScript -/
def tys21 : Nat → Option Ty := fun t => find [(22, y22), (5, y5), (3, y3)] t
theorem ok21 : TysOk Try.prog tys21 := tysOk_of ⟨ty22, ty5, ty3, trivial⟩

/-- function 22: pub-mintmark/spec.lastPush -/
def tys22 : Nat → Option Ty := fun t => find [(37, y37), (41, y41), (3, y3), (22, y22), (5, y5)] t
theorem ok22 : TysOk Try.prog tys22 := tysOk_of ⟨ty37, ty41, ty3, ty22, ty5, trivial⟩

/-- function 30: pub-mintmark/pub/btcdtxscript.isWitnessProgramScript -/
def tys30 : Nat → Option Ty := fun t => find [] t
theorem ok30 : TysOk Try.prog tys30 := tysOk_of trivial

/-- function 31: pub-mintmark/pub/btcdtxscript.getWitnessSigOps -/
def tys31 : Nat → Option Ty := fun t => find [(45, y45), (3, y3), (22, y22), (5, y5), (69, y69)] t
theorem ok31 : TysOk Try.prog tys31 := tysOk_of ⟨ty45, ty3, ty22, ty5, ty69, trivial⟩

/-- function 32: pub-mintmark/pub/btcdtxscript.isScriptHashScript -/
def tys32 : Nat → Option Ty := fun t => find [(22, y22), (5, y5)] t
theorem ok32 : TysOk Try.prog tys32 := tysOk_of ⟨ty22, ty5, trivial⟩

/-- function 33: pub-mintmark/pub/btcdtxscript.IsPushOnlyScript -/
def tys33 : Nat → Option Ty := fun t => find [(78, y78), (5, y5), (45, y45)] t
theorem ok33 : TysOk Try.prog tys33 := tysOk_of ⟨ty78, ty5, ty45, trivial⟩

/-- function 34: pub-mintmark/pub/btcdtxscript.finalOpcodeData -/
def tys34 : Nat → Option Ty := fun t => find [(22, y22), (5, y5), (3, y3), (78, y78), (45, y45)] t
theorem ok34 : TysOk Try.prog tys34 := tysOk_of ⟨ty22, ty5, ty3, ty78, ty45, trivial⟩

/-- function 35: pub-mintmark/spec.IsWitnessKeyHash -/
def tys35 : Nat → Option Ty := fun t => find [(98, y98), (3, y3)] t
theorem ok35 : TysOk Try.prog tys35 := tysOk_of ⟨ty98, ty3, trivial⟩

/-- function 36: pub-mintmark/spec.IsWitnessScriptHash -/
def tys36 : Nat → Option Ty := fun t => find [(98, y98), (3, y3)] t
theorem ok36 : TysOk Try.prog tys36 := tysOk_of ⟨ty98, ty3, trivial⟩

/-- function 37: pub-mintmark/spec.SigOps -/
def tys37 : Nat → Option Ty := fun t => find [(37, y37), (41, y41), (3, y3), (22, y22), (5, y5)] t
theorem ok37 : TysOk Try.prog tys37 := tysOk_of ⟨ty37, ty41, ty3, ty22, ty5, trivial⟩

/-- function 38: pub-mintmark/spec.PushOnly -/
def tys38 : Nat → Option Ty := fun t => find [(37, y37), (41, y41), (3, y3)] t
theorem ok38 : TysOk Try.prog tys38 := tysOk_of ⟨ty37, ty41, ty3, trivial⟩

/-- function 39: pub-mintmark/pub/btcdtxscript.MakeScriptTokenizer -/
def tys39 : Nat → Option Ty := fun t => find [(78, y78), (63, y63), (66, y66), (22, y22), (5, y5), (21, y21), (76, y76), (45, y45)] t
theorem ok39 : TysOk Try.prog tys39 := tysOk_of ⟨ty78, ty63, ty66, ty22, ty5, ty21, ty76, ty45, trivial⟩

/-- function 42: (*pub-mintmark/pub/btcdtxscript.ScriptTokenizer).Data -/
def tys42 : Nat → Option Ty := fun t => find [(78, y78), (22, y22), (5, y5), (63, y63), (21, y21), (76, y76), (45, y45)] t
theorem ok42 : TysOk Try.prog tys42 := tysOk_of ⟨ty78, ty22, ty5, ty63, ty21, ty76, ty45, trivial⟩

/-- function 44: (*pub-mintmark/pub/btcdtxscript.ScriptTokenizer).Err -/
def tys44 : Nat → Option Ty := fun t => find [(78, y78), (22, y22), (5, y5), (63, y63), (21, y21), (76, y76), (45, y45)] t
theorem ok44 : TysOk Try.prog tys44 := tysOk_of ⟨ty78, ty22, ty5, ty63, ty21, ty76, ty45, trivial⟩

/-- function 50: (*pub-mintmark/pub/btcdtxscript.ScriptTokenizer).Opcode -/
def tys50 : Nat → Option Ty := fun t => find [(78, y78), (22, y22), (5, y5), (63, y63), (21, y21), (76, y76), (45, y45), (104, y104), (9, y9), (3, y3)] t
theorem ok50 : TysOk Try.prog tys50 := tysOk_of ⟨ty78, ty22, ty5, ty63, ty21, ty76, ty45, ty104, ty9, ty3, trivial⟩

/-- function 53: (*pub-mintmark/pub/btcdtxscript.ScriptTokenizer).Done -/
def tys53 : Nat → Option Ty := fun t => find [(78, y78), (22, y22), (5, y5), (63, y63), (21, y21), (76, y76), (45, y45), (3, y3)] t
theorem ok53 : TysOk Try.prog tys53 := tysOk_of ⟨ty78, ty22, ty5, ty63, ty21, ty76, ty45, ty3, trivial⟩

/-- function 55: pub-mintmark/pub/btcdtxscript.extractWitnessProgramInfo -/
def tys55 : Nat → Option Ty := fun t => find [(22, y22), (5, y5), (3, y3), (78, y78), (45, y45)] t
theorem ok55 : TysOk Try.prog tys55 := tysOk_of ⟨ty22, ty5, ty3, ty78, ty45, trivial⟩

/-- function 56: pub-mintmark/pub/btcdtxscript.ExtractWitnessProgramInfo -/
def tys56 : Nat → Option Ty := fun t => find [] t
theorem ok56 : TysOk Try.prog tys56 := tysOk_of trivial

/-- function 57: pub-mintmark/pub/btcdtxscript.countSigOpsV0 -/
def tys57 : Nat → Option Ty := fun t => find [(78, y78), (5, y5), (3, y3)] t
theorem ok57 : TysOk Try.prog tys57 := tysOk_of ⟨ty78, ty5, ty3, trivial⟩

/-- function 58: pub-mintmark/pub/btcdtxscript.extractScriptHash -/
def tys58 : Nat → Option Ty := fun t => find [(22, y22), (5, y5), (3, y3)] t
theorem ok58 : TysOk Try.prog tys58 := tysOk_of ⟨ty22, ty5, ty3, trivial⟩

/-- function 59: pub-mintmark/spec.like -/
def tys59 : Nat → Option Ty := fun t => find [(22, y22), (5, y5), (98, y98), (3, y3)] t
theorem ok59 : TysOk Try.prog tys59 := tysOk_of ⟨ty22, ty5, ty98, ty3, trivial⟩

/-- function 60: pub-mintmark/spec.pattern -/
def tys60 : Nat → Option Ty := fun t => find [(98, y98), (3, y3)] t
theorem ok60 : TysOk Try.prog tys60 := tysOk_of ⟨ty98, ty3, trivial⟩

/-- function 61: pub-mintmark/spec.Pushes -/
def tys61 : Nat → Option Ty := fun t => find [(41, y41), (3, y3), (22, y22), (5, y5)] t
theorem ok61 : TysOk Try.prog tys61 := tysOk_of ⟨ty41, ty3, ty22, ty5, trivial⟩

/-- function 68: pub-mintmark/pub/btcdtxscript.isCanonicalPush -/
def tys68 : Nat → Option Ty := fun t => find [(22, y22), (5, y5), (3, y3)] t
theorem ok68 : TysOk Try.prog tys68 := tysOk_of ⟨ty22, ty5, ty3, trivial⟩
end Go.Proofs.Ytbakdoienfmacaa.Tytw
