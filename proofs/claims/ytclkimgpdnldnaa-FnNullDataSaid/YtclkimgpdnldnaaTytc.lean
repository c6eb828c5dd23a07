/- The types that some functions name, as the evaluator wants them. Printed by a program of my own (seatgen.py). -/
import Derived.Test.YtclkimgpdnldnaaSl
import Derived.Test.YtclkimgpdnldnaaProg
import Derived.KernelRfl
namespace Go.Proofs.Ytclkimgpdnldnaa.Tytc
open Go Go.Se Go.Proofs

/-- int64 -/
def y2 : Ty := ⟨.int .i64, 1, false, .int .i64 0, 8⟩
theorem ty2 : tyOf Try.prog 2 = some y2 := by kernel_rfl
/-- int -/
def y3 : Ty := ⟨.int .i64, 1, false, .int .i64 0, 8⟩
theorem ty3 : tyOf Try.prog 3 = some y3 := by kernel_rfl
/-- bool -/
def y4 : Ty := ⟨.bool, 1, false, .bool false, 1⟩
theorem ty4 : tyOf Try.prog 4 = some y4 := by kernel_rfl
/-- uint8 -/
def y5 : Ty := ⟨.int .u8, 1, false, .int .u8 0, 1⟩
theorem ty5 : tyOf Try.prog 5 = some y5 := by kernel_rfl
/-- string -/
def y9 : Ty := ⟨.str, 1, false, .string ByteArray.empty, 16⟩
theorem ty9 : tyOf Try.prog 9 = some y9 := by kernel_rfl
/-- int32 -/
def y21 : Ty := ⟨.int .i32, 1, false, .int .i32 0, 4⟩
theorem ty21 : tyOf Try.prog 21 = some y21 := by kernel_rfl
/-- []impl.TxIn -/
def y28 : Ty := ⟨.slc 89, 1, false, .slice none 0 0, 24⟩
theorem ty28 : tyOf Try.prog 28 = some y28 := by kernel_rfl
/-- []impl.TxOut -/
def y29 : Ty := ⟨.slc 91, 1, false, .slice none 0 0, 24⟩
theorem ty29 : tyOf Try.prog 29 = some y29 := by kernel_rfl
/-- uint32 -/
def y30 : Ty := ⟨.int .u32, 1, false, .int .u32 0, 4⟩
theorem ty30 : tyOf Try.prog 30 = some y30 := by kernel_rfl
/-- impl.Tx -/
def y32 : Ty := ⟨.stc [(0, 21), (1, 28), (2, 29), (3, 30)], 4, true, .agg #[.int .i32 0, .slice none 0 0, .slice none 0 0, .int .u32 0], 64⟩
theorem ty32 : tyOf Try.prog 32 = some y32 := by kernel_rfl
/-- []uint8 -/
def y36 : Ty := ⟨.slc 5, 1, false, .slice none 0 0, 24⟩
theorem ty36 : tyOf Try.prog 36 = some y36 := by kernel_rfl
/-- [32]uint8 -/
def y60 : Ty := ⟨.arr 32 5, 32, true, .agg #[.int .u8 0, .int .u8 0, .int .u8 0, .int .u8 0, .int .u8 0, .int .u8 0, .int .u8 0, .int .u8 0, .int .u8 0, .int .u8 0, .int .u8 0, .int .u8 0, .int .u8 0, .int .u8 0, .int .u8 0, .int .u8 0, .int .u8 0, .int .u8 0, .int .u8 0, .int .u8 0, .int .u8 0, .int .u8 0, .int .u8 0, .int .u8 0, .int .u8 0, .int .u8 0, .int .u8 0, .int .u8 0, .int .u8 0, .int .u8 0, .int .u8 0, .int .u8 0], 32⟩
theorem ty60 : tyOf Try.prog 60 = some y60 := by kernel_rfl
/-- impl.OutPoint -/
def y86 : Ty := ⟨.stc [(0, 60), (32, 30)], 33, true, .agg #[.int .u8 0, .int .u8 0, .int .u8 0, .int .u8 0, .int .u8 0, .int .u8 0, .int .u8 0, .int .u8 0, .int .u8 0, .int .u8 0, .int .u8 0, .int .u8 0, .int .u8 0, .int .u8 0, .int .u8 0, .int .u8 0, .int .u8 0, .int .u8 0, .int .u8 0, .int .u8 0, .int .u8 0, .int .u8 0, .int .u8 0, .int .u8 0, .int .u8 0, .int .u8 0, .int .u8 0, .int .u8 0, .int .u8 0, .int .u8 0, .int .u8 0, .int .u8 0, .int .u32 0], 36⟩
theorem ty86 : tyOf Try.prog 86 = some y86 := by kernel_rfl
/-- [][]uint8 -/
def y87 : Ty := ⟨.slc 36, 1, false, .slice none 0 0, 24⟩
theorem ty87 : tyOf Try.prog 87 = some y87 := by kernel_rfl
/-- impl.TxIn -/
def y89 : Ty := ⟨.stc [(0, 86), (33, 36), (34, 87), (35, 30)], 36, true, .agg #[.int .u8 0, .int .u8 0, .int .u8 0, .int .u8 0, .int .u8 0, .int .u8 0, .int .u8 0, .int .u8 0, .int .u8 0, .int .u8 0, .int .u8 0, .int .u8 0, .int .u8 0, .int .u8 0, .int .u8 0, .int .u8 0, .int .u8 0, .int .u8 0, .int .u8 0, .int .u8 0, .int .u8 0, .int .u8 0, .int .u8 0, .int .u8 0, .int .u8 0, .int .u8 0, .int .u8 0, .int .u8 0, .int .u8 0, .int .u8 0, .int .u8 0, .int .u8 0, .int .u32 0, .slice none 0 0, .slice none 0 0, .int .u32 0], 96⟩
theorem ty89 : tyOf Try.prog 89 = some y89 := by kernel_rfl
/-- impl.TxOut -/
def y91 : Ty := ⟨.stc [(0, 2), (1, 36)], 2, true, .agg #[.int .i64 0, .slice none 0 0], 32⟩
theorem ty91 : tyOf Try.prog 91 = some y91 := by kernel_rfl
/-- []*wire.TxIn -/
def y133 : Ty := ⟨.slc 138, 1, false, .slice none 0 0, 24⟩
theorem ty133 : tyOf Try.prog 133 = some y133 := by kernel_rfl
/-- []*wire.TxOut -/
def y134 : Ty := ⟨.slc 159, 1, false, .slice none 0 0, 24⟩
theorem ty134 : tyOf Try.prog 134 = some y134 := by kernel_rfl
/-- wire.MsgTx -/
def y136 : Ty := ⟨.stc [(0, 21), (1, 133), (2, 134), (3, 30)], 4, true, .agg #[.int .i32 0, .slice none 0 0, .slice none 0 0, .int .u32 0], 64⟩
theorem ty136 : tyOf Try.prog 136 = some y136 := by kernel_rfl
/-- *wire.TxIn -/
def y138 : Ty := ⟨.ptr, 1, false, .pointer none, 8⟩
theorem ty138 : tyOf Try.prog 138 = some y138 := by kernel_rfl
/-- chainhash.Hash -/
def y139 : Ty := ⟨.arr 32 5, 32, true, .agg #[.int .u8 0, .int .u8 0, .int .u8 0, .int .u8 0, .int .u8 0, .int .u8 0, .int .u8 0, .int .u8 0, .int .u8 0, .int .u8 0, .int .u8 0, .int .u8 0, .int .u8 0, .int .u8 0, .int .u8 0, .int .u8 0, .int .u8 0, .int .u8 0, .int .u8 0, .int .u8 0, .int .u8 0, .int .u8 0, .int .u8 0, .int .u8 0, .int .u8 0, .int .u8 0, .int .u8 0, .int .u8 0, .int .u8 0, .int .u8 0, .int .u8 0, .int .u8 0], 32⟩
theorem ty139 : tyOf Try.prog 139 = some y139 := by kernel_rfl
/-- wire.OutPoint -/
def y141 : Ty := ⟨.stc [(0, 139), (32, 30)], 33, true, .agg #[.int .u8 0, .int .u8 0, .int .u8 0, .int .u8 0, .int .u8 0, .int .u8 0, .int .u8 0, .int .u8 0, .int .u8 0, .int .u8 0, .int .u8 0, .int .u8 0, .int .u8 0, .int .u8 0, .int .u8 0, .int .u8 0, .int .u8 0, .int .u8 0, .int .u8 0, .int .u8 0, .int .u8 0, .int .u8 0, .int .u8 0, .int .u8 0, .int .u8 0, .int .u8 0, .int .u8 0, .int .u8 0, .int .u8 0, .int .u8 0, .int .u8 0, .int .u8 0, .int .u32 0], 36⟩
theorem ty141 : tyOf Try.prog 141 = some y141 := by kernel_rfl
/-- wire.TxWitness -/
def y142 : Ty := ⟨.slc 36, 1, false, .slice none 0 0, 24⟩
theorem ty142 : tyOf Try.prog 142 = some y142 := by kernel_rfl
/-- wire.TxIn -/
def y144 : Ty := ⟨.stc [(0, 141), (33, 36), (34, 142), (35, 30)], 36, true, .agg #[.int .u8 0, .int .u8 0, .int .u8 0, .int .u8 0, .int .u8 0, .int .u8 0, .int .u8 0, .int .u8 0, .int .u8 0, .int .u8 0, .int .u8 0, .int .u8 0, .int .u8 0, .int .u8 0, .int .u8 0, .int .u8 0, .int .u8 0, .int .u8 0, .int .u8 0, .int .u8 0, .int .u8 0, .int .u8 0, .int .u8 0, .int .u8 0, .int .u8 0, .int .u8 0, .int .u8 0, .int .u8 0, .int .u8 0, .int .u8 0, .int .u8 0, .int .u8 0, .int .u32 0, .slice none 0 0, .slice none 0 0, .int .u32 0], 96⟩
theorem ty144 : tyOf Try.prog 144 = some y144 := by kernel_rfl
/-- wire.TxOut -/
def y158 : Ty := ⟨.stc [(0, 2), (1, 36)], 2, true, .agg #[.int .i64 0, .slice none 0 0], 32⟩
theorem ty158 : tyOf Try.prog 158 = some y158 := by kernel_rfl
/-- *wire.TxOut -/
def y159 : Ty := ⟨.ptr, 1, false, .pointer none, 8⟩
theorem ty159 : tyOf Try.prog 159 = some y159 := by kernel_rfl

/-- function 8: pub-mintmark/laws.FnCommitment -/
def tys8 : Nat → Option Ty := fun t => find [(32, y32), (3, y3), (4, y4)] t
theorem ok8 : TysOk Try.prog tys8 := tysOk_of ⟨ty32, ty3, ty4, trivial⟩

/-- function 23: pub-mintmark/laws.same -/
def tys23 : Nat → Option Ty := fun t => find [(36, y36), (5, y5), (3, y3)] t
theorem ok23 : TysOk Try.prog tys23 := tysOk_of ⟨ty36, ty5, ty3, trivial⟩

/-- function 24: pub-mintmark/spec.Commitment -/
def tys24 : Nat → Option Ty := fun t => find [(32, y32), (21, y21), (28, y28), (89, y89), (29, y29), (91, y91), (30, y30), (3, y3), (2, y2), (36, y36), (5, y5)] t
theorem ok24 : TysOk Try.prog tys24 := tysOk_of ⟨ty32, ty21, ty28, ty89, ty29, ty91, ty30, ty3, ty2, ty36, ty5, trivial⟩

/-- function 25: pub-mintmark/impl.Commitment -/
def tys25 : Nat → Option Ty := fun t => find [(32, y32)] t
theorem ok25 : TysOk Try.prog tys25 := tysOk_of ⟨ty32, trivial⟩

/-- function 58: pub-mintmark/spec.IsCoinbase -/
def tys58 : Nat → Option Ty := fun t => find [(32, y32), (21, y21), (28, y28), (89, y89), (29, y29), (91, y91), (30, y30), (3, y3), (86, y86), (36, y36), (5, y5), (87, y87)] t
theorem ok58 : TysOk Try.prog tys58 := tysOk_of ⟨ty32, ty21, ty28, ty89, ty29, ty91, ty30, ty3, ty86, ty36, ty5, ty87, trivial⟩

/-- function 59: pub-mintmark/spec.sameBytes -/
def tys59 : Nat → Option Ty := fun t => find [(36, y36), (5, y5), (3, y3)] t
theorem ok59 : TysOk Try.prog tys59 := tysOk_of ⟨ty36, ty5, ty3, trivial⟩

/-- function 60: pub-mintmark/spec.magic -/
def tys60 : Nat → Option Ty := fun t => find [(36, y36), (5, y5)] t
theorem ok60 : TysOk Try.prog tys60 := tysOk_of ⟨ty36, ty5, trivial⟩

/-- function 61: pub-mintmark/pub/btcd/blockchain.ExtractWitnessCommitment -/
def tys61 : Nat → Option Ty := fun t => find [(136, y136), (21, y21), (133, y133), (138, y138), (134, y134), (159, y159), (30, y30), (3, y3), (158, y158), (2, y2), (36, y36), (5, y5)] t
theorem ok61 : TysOk Try.prog tys61 := tysOk_of ⟨ty136, ty21, ty133, ty138, ty134, ty159, ty30, ty3, ty158, ty2, ty36, ty5, trivial⟩

/-- function 88: pub-mintmark/spec.isNone -/
def tys88 : Nat → Option Ty := fun t => find [(86, y86), (60, y60), (5, y5), (30, y30)] t
theorem ok88 : TysOk Try.prog tys88 := tysOk_of ⟨ty86, ty60, ty5, ty30, trivial⟩

/-- function 89: pub-mintmark/pub/btcd/blockchain.IsCoinBase -/
def tys89 : Nat → Option Ty := fun t => find [] t
theorem ok89 : TysOk Try.prog tys89 := tysOk_of trivial

/-- function 90: bytes.HasPrefix -/
def tys90 : Nat → Option Ty := fun t => find [(36, y36), (5, y5), (3, y3)] t
theorem ok90 : TysOk Try.prog tys90 := tysOk_of ⟨ty36, ty5, ty3, trivial⟩

/-- function 91: pub-mintmark/pub/btcd/blockchain.witnessMagicBytes -/
def tys91 : Nat → Option Ty := fun t => find [(36, y36), (5, y5)] t
theorem ok91 : TysOk Try.prog tys91 := tysOk_of ⟨ty36, ty5, trivial⟩

/-- function 114: pub-mintmark/pub/btcd/blockchain.IsCoinBaseTx -/
def tys114 : Nat → Option Ty := fun t => find [(136, y136), (21, y21), (133, y133), (138, y138), (134, y134), (159, y159), (30, y30), (3, y3), (144, y144), (141, y141), (36, y36), (5, y5), (142, y142), (139, y139)] t
theorem ok114 : TysOk Try.prog tys114 := tysOk_of ⟨ty136, ty21, ty133, ty138, ty134, ty159, ty30, ty3, ty144, ty141, ty36, ty5, ty142, ty139, trivial⟩

/-- function 115: bytes.Equal -/
def tys115 : Nat → Option Ty := fun t => find [(36, y36), (5, y5), (9, y9)] t
theorem ok115 : TysOk Try.prog tys115 := tysOk_of ⟨ty36, ty5, ty9, trivial⟩
end Go.Proofs.Ytclkimgpdnldnaa.Tytc
