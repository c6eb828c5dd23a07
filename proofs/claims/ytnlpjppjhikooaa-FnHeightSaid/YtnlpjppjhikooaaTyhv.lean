/- The types that some functions name, as the evaluator wants them. Printed by a program of my own (seatgen.py). -/
import Derived.Test.YtnlpjppjhikooaaSl
import Derived.Test.YtnlpjppjhikooaaProg
import Derived.KernelRfl
namespace Go.Proofs.Ytnlpjppjhikooaa.Tyhv
open Go Go.Se Go.Proofs

/-- int -/
def y3 : Ty := ⟨.int .i64, 1, false, .int .i64 0, 8⟩
theorem ty3 : tyOf Try.prog 3 = some y3 := by kernel_rfl
/-- uint8 -/
def y5 : Ty := ⟨.int .u8, 1, false, .int .u8 0, 1⟩
theorem ty5 : tyOf Try.prog 5 = some y5 := by kernel_rfl
/-- string -/
def y9 : Ty := ⟨.str, 1, false, .string ByteArray.empty, 16⟩
theorem ty9 : tyOf Try.prog 9 = some y9 := by kernel_rfl
/-- int32 -/
def y21 : Ty := ⟨.int .i32, 1, false, .int .i32 0, 4⟩
theorem ty21 : tyOf Try.prog 21 = some y21 := by kernel_rfl
/-- []uint8 -/
def y22 : Ty := ⟨.slc 5, 1, false, .slice none 0 0, 24⟩
theorem ty22 : tyOf Try.prog 22 = some y22 := by kernel_rfl
/-- uint32 -/
def y23 : Ty := ⟨.int .u32, 1, false, .int .u32 0, 4⟩
theorem ty23 : tyOf Try.prog 23 = some y23 := by kernel_rfl
/-- impl.Tx -/
def y48 : Ty := ⟨.stc [(0, 21), (1, 43), (2, 46), (3, 23)], 4, true, .agg #[.int .i32 0, .slice none 0 0, .slice none 0 0, .int .u32 0], 64⟩
theorem ty48 : tyOf Try.prog 48 = some y48 := by kernel_rfl
/-- error -/
def y67 : Ty := ⟨.ifc, 1, false, .nilIface, 16⟩
theorem ty67 : tyOf Try.prog 67 = some y67 := by kernel_rfl
/-- wire.OutPoint -/
def y94 : Ty := ⟨.stc [(0, 92), (32, 23)], 33, true, .agg #[.int .u8 0, .int .u8 0, .int .u8 0, .int .u8 0, .int .u8 0, .int .u8 0, .int .u8 0, .int .u8 0, .int .u8 0, .int .u8 0, .int .u8 0, .int .u8 0, .int .u8 0, .int .u8 0, .int .u8 0, .int .u8 0, .int .u8 0, .int .u8 0, .int .u8 0, .int .u8 0, .int .u8 0, .int .u8 0, .int .u8 0, .int .u8 0, .int .u8 0, .int .u8 0, .int .u8 0, .int .u8 0, .int .u8 0, .int .u8 0, .int .u8 0, .int .u8 0, .int .u32 0], 36⟩
theorem ty94 : tyOf Try.prog 94 = some y94 := by kernel_rfl
/-- wire.TxWitness -/
def y95 : Ty := ⟨.slc 22, 1, false, .slice none 0 0, 24⟩
theorem ty95 : tyOf Try.prog 95 = some y95 := by kernel_rfl
/-- wire.TxIn -/
def y97 : Ty := ⟨.stc [(0, 94), (33, 22), (34, 95), (35, 23)], 36, true, .agg #[.int .u8 0, .int .u8 0, .int .u8 0, .int .u8 0, .int .u8 0, .int .u8 0, .int .u8 0, .int .u8 0, .int .u8 0, .int .u8 0, .int .u8 0, .int .u8 0, .int .u8 0, .int .u8 0, .int .u8 0, .int .u8 0, .int .u8 0, .int .u8 0, .int .u8 0, .int .u8 0, .int .u8 0, .int .u8 0, .int .u8 0, .int .u8 0, .int .u8 0, .int .u8 0, .int .u8 0, .int .u8 0, .int .u8 0, .int .u8 0, .int .u8 0, .int .u8 0, .int .u32 0, .slice none 0 0, .slice none 0 0, .int .u32 0], 96⟩
theorem ty97 : tyOf Try.prog 97 = some y97 := by kernel_rfl
/-- *wire.TxIn -/
def y98 : Ty := ⟨.ptr, 1, false, .pointer none, 8⟩
theorem ty98 : tyOf Try.prog 98 = some y98 := by kernel_rfl
/-- []*wire.TxIn -/
def y99 : Ty := ⟨.slc 98, 1, false, .slice none 0 0, 24⟩
theorem ty99 : tyOf Try.prog 99 = some y99 := by kernel_rfl
/-- []*wire.TxOut -/
def y100 : Ty := ⟨.slc 138, 1, false, .slice none 0 0, 24⟩
theorem ty100 : tyOf Try.prog 100 = some y100 := by kernel_rfl
/-- wire.MsgTx -/
def y102 : Ty := ⟨.stc [(0, 21), (1, 99), (2, 100), (3, 23)], 4, true, .agg #[.int .i32 0, .slice none 0 0, .slice none 0 0, .int .u32 0], 64⟩
theorem ty102 : tyOf Try.prog 102 = some y102 := by kernel_rfl
/-- *wire.MsgTx -/
def y103 : Ty := ⟨.ptr, 1, false, .pointer none, 8⟩
theorem ty103 : tyOf Try.prog 103 = some y103 := by kernel_rfl
/-- blockchain.ErrorCode -/
def y105 : Ty := ⟨.int .i64, 1, false, .int .i64 0, 8⟩
theorem ty105 : tyOf Try.prog 105 = some y105 := by kernel_rfl
/-- blockchain.RuleError -/
def y107 : Ty := ⟨.stc [(0, 105), (1, 9)], 2, true, .agg #[.int .i64 0, .string ByteArray.empty], 24⟩
theorem ty107 : tyOf Try.prog 107 = some y107 := by kernel_rfl
/-- [4]uint8 -/
def y109 : Ty := ⟨.arr 4 5, 4, true, .agg #[.int .u8 0, .int .u8 0, .int .u8 0, .int .u8 0], 4⟩
theorem ty109 : tyOf Try.prog 109 = some y109 := by kernel_rfl
/-- binary.littleEndian -/
def y110 : Ty := ⟨.stc [], 0, true, .agg #[], 0⟩
theorem ty110 : tyOf Try.prog 110 = some y110 := by kernel_rfl
/-- *chainhash.Hash -/
def y124 : Ty := ⟨.ptr, 1, false, .pointer none, 8⟩
theorem ty124 : tyOf Try.prog 124 = some y124 := by kernel_rfl
/-- *bool -/
def y125 : Ty := ⟨.ptr, 1, false, .pointer none, 8⟩
theorem ty125 : tyOf Try.prog 125 = some y125 := by kernel_rfl
/-- btcutil.Tx -/
def y127 : Ty := ⟨.stc [(0, 103), (1, 124), (2, 124), (3, 125), (4, 3), (5, 22)], 6, true, .agg #[.pointer none, .pointer none, .pointer none, .pointer none, .int .i64 0, .slice none 0 0], 64⟩
theorem ty127 : tyOf Try.prog 127 = some y127 := by kernel_rfl
/-- *wire.TxOut -/
def y138 : Ty := ⟨.ptr, 1, false, .pointer none, 8⟩
theorem ty138 : tyOf Try.prog 138 = some y138 := by kernel_rfl

/-- function 16: pub-mintmark/impl.Height -/
def tys16 : Nat → Option Ty := fun t => find [(48, y48)] t
theorem ok16 : TysOk Try.prog tys16 := tysOk_of ⟨ty48, trivial⟩

/-- function 17: pub-mintmark/impl.HeightFault -/
def tys17 : Nat → Option Ty := fun t => find [(48, y48)] t
theorem ok17 : TysOk Try.prog tys17 := tysOk_of ⟨ty48, trivial⟩

/-- function 29: pub-mintmark/pub/btcd/blockchain.ExtractCoinbaseHeight -/
def tys29 : Nat → Option Ty := fun t => find [(102, y102), (21, y21), (99, y99), (98, y98), (100, y100), (138, y138), (23, y23), (97, y97), (94, y94), (22, y22), (5, y5), (95, y95), (3, y3), (107, y107), (109, y109), (110, y110), (67, y67)] t
theorem ok29 : TysOk Try.prog tys29 := tysOk_of ⟨ty102, ty21, ty99, ty98, ty100, ty138, ty23, ty97, ty94, ty22, ty5, ty95, ty3, ty107, ty109, ty110, ty67, trivial⟩

/-- function 31: pub-mintmark/impl.fault -/
def tys31 : Nat → Option Ty := fun t => find [(67, y67), (107, y107), (105, y105), (9, y9)] t
theorem ok31 : TysOk Try.prog tys31 := tysOk_of ⟨ty67, ty107, ty105, ty9, trivial⟩

/-- function 32: pub-mintmark/pub/btcd/blockchain.CheckSerializedHeight -/
def tys32 : Nat → Option Ty := fun t => find [(67, y67), (21, y21), (107, y107)] t
theorem ok32 : TysOk Try.prog tys32 := tysOk_of ⟨ty67, ty21, ty107, trivial⟩

/-- function 43: (*pub-mintmark/pub/btcdbtcutil.Tx).MsgTx -/
def tys43 : Nat → Option Ty := fun t => find [(127, y127), (103, y103), (124, y124), (125, y125), (3, y3), (22, y22), (5, y5)] t
theorem ok43 : TysOk Try.prog tys43 := tysOk_of ⟨ty127, ty103, ty124, ty125, ty3, ty22, ty5, trivial⟩

/-- function 44: pub-mintmark/pub/btcd/blockchain.ruleError -/
def tys44 : Nat → Option Ty := fun t => find [(107, y107), (105, y105), (9, y9)] t
theorem ok44 : TysOk Try.prog tys44 := tysOk_of ⟨ty107, ty105, ty9, trivial⟩

/-- function 45: (encoding/binary.littleEndian).Uint32 -/
def tys45 : Nat → Option Ty := fun t => find [(110, y110), (22, y22), (5, y5), (23, y23)] t
theorem ok45 : TysOk Try.prog tys45 := tysOk_of ⟨ty110, ty22, ty5, ty23, trivial⟩
end Go.Proofs.Ytnlpjppjhikooaa.Tyhv
