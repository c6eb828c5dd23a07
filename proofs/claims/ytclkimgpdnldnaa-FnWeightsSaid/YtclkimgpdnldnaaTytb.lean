/- The types that some functions name, as the evaluator wants them. Printed by a program of my own (seatgen.py). -/
import Derived.Test.YtclkimgpdnldnaaSl
import Derived.Test.YtclkimgpdnldnaaProg
import Derived.KernelRfl
namespace Go.Proofs.Ytclkimgpdnldnaa.Tytb
open Go Go.Se Go.Proofs

/-- int64 -/
def y2 : Ty := ⟨.int .i64, 1, false, .int .i64 0, 8⟩
theorem ty2 : tyOf Try.prog 2 = some y2 := by kernel_rfl
/-- int -/
def y3 : Ty := ⟨.int .i64, 1, false, .int .i64 0, 8⟩
theorem ty3 : tyOf Try.prog 3 = some y3 := by kernel_rfl
/-- bool -/
def y4 : Ty := ⟨.bool, 1, false, .bool false, 1⟩
theorem ty4 : tyOf Try.prog 4 = some y4 := by kernel_rfl
/-- uint8 -/
def y5 : Ty := ⟨.int .u8, 1, false, .int .u8 0, 1⟩
theorem ty5 : tyOf Try.prog 5 = some y5 := by kernel_rfl
/-- int32 -/
def y21 : Ty := ⟨.int .i32, 1, false, .int .i32 0, 4⟩
theorem ty21 : tyOf Try.prog 21 = some y21 := by kernel_rfl
/-- []impl.TxIn -/
def y28 : Ty := ⟨.slc 89, 1, false, .slice none 0 0, 24⟩
theorem ty28 : tyOf Try.prog 28 = some y28 := by kernel_rfl
/-- []impl.TxOut -/
def y29 : Ty := ⟨.slc 91, 1, false, .slice none 0 0, 24⟩
theorem ty29 : tyOf Try.prog 29 = some y29 := by kernel_rfl
/-- uint32 -/
def y30 : Ty := ⟨.int .u32, 1, false, .int .u32 0, 4⟩
theorem ty30 : tyOf Try.prog 30 = some y30 := by kernel_rfl
/-- impl.Tx -/
def y32 : Ty := ⟨.stc [(0, 21), (1, 28), (2, 29), (3, 30)], 4, true, .agg #[.int .i32 0, .slice none 0 0, .slice none 0 0, .int .u32 0], 64⟩
theorem ty32 : tyOf Try.prog 32 = some y32 := by kernel_rfl
/-- []uint8 -/
def y36 : Ty := ⟨.slc 5, 1, false, .slice none 0 0, 24⟩
theorem ty36 : tyOf Try.prog 36 = some y36 := by kernel_rfl
/-- [32]uint8 -/
def y60 : Ty := ⟨.arr 32 5, 32, true, .agg #[.int .u8 0, .int .u8 0, .int .u8 0, .int .u8 0, .int .u8 0, .int .u8 0, .int .u8 0, .int .u8 0, .int .u8 0, .int .u8 0, .int .u8 0, .int .u8 0, .int .u8 0, .int .u8 0, .int .u8 0, .int .u8 0, .int .u8 0, .int .u8 0, .int .u8 0, .int .u8 0, .int .u8 0, .int .u8 0, .int .u8 0, .int .u8 0, .int .u8 0, .int .u8 0, .int .u8 0, .int .u8 0, .int .u8 0, .int .u8 0, .int .u8 0, .int .u8 0], 32⟩
theorem ty60 : tyOf Try.prog 60 = some y60 := by kernel_rfl
/-- impl.OutPoint -/
def y86 : Ty := ⟨.stc [(0, 60), (32, 30)], 33, true, .agg #[.int .u8 0, .int .u8 0, .int .u8 0, .int .u8 0, .int .u8 0, .int .u8 0, .int .u8 0, .int .u8 0, .int .u8 0, .int .u8 0, .int .u8 0, .int .u8 0, .int .u8 0, .int .u8 0, .int .u8 0, .int .u8 0, .int .u8 0, .int .u8 0, .int .u8 0, .int .u8 0, .int .u8 0, .int .u8 0, .int .u8 0, .int .u8 0, .int .u8 0, .int .u8 0, .int .u8 0, .int .u8 0, .int .u8 0, .int .u8 0, .int .u8 0, .int .u8 0, .int .u32 0], 36⟩
theorem ty86 : tyOf Try.prog 86 = some y86 := by kernel_rfl
/-- [][]uint8 -/
def y87 : Ty := ⟨.slc 36, 1, false, .slice none 0 0, 24⟩
theorem ty87 : tyOf Try.prog 87 = some y87 := by kernel_rfl
/-- impl.TxIn -/
def y89 : Ty := ⟨.stc [(0, 86), (33, 36), (34, 87), (35, 30)], 36, true, .agg #[.int .u8 0, .int .u8 0, .int .u8 0, .int .u8 0, .int .u8 0, .int .u8 0, .int .u8 0, .int .u8 0, .int .u8 0, .int .u8 0, .int .u8 0, .int .u8 0, .int .u8 0, .int .u8 0, .int .u8 0, .int .u8 0, .int .u8 0, .int .u8 0, .int .u8 0, .int .u8 0, .int .u8 0, .int .u8 0, .int .u8 0, .int .u8 0, .int .u8 0, .int .u8 0, .int .u8 0, .int .u8 0, .int .u8 0, .int .u8 0, .int .u8 0, .int .u8 0, .int .u32 0, .slice none 0 0, .slice none 0 0, .int .u32 0], 96⟩
theorem ty89 : tyOf Try.prog 89 = some y89 := by kernel_rfl
/-- impl.TxOut -/
def y91 : Ty := ⟨.stc [(0, 2), (1, 36)], 2, true, .agg #[.int .i64 0, .slice none 0 0], 32⟩
theorem ty91 : tyOf Try.prog 91 = some y91 := by kernel_rfl
/-- uint64 -/
def y98 : Ty := ⟨.int .u64, 1, false, .int .u64 0, 8⟩
theorem ty98 : tyOf Try.prog 98 = some y98 := by kernel_rfl
/-- []*wire.TxIn -/
def y133 : Ty := ⟨.slc 138, 1, false, .slice none 0 0, 24⟩
theorem ty133 : tyOf Try.prog 133 = some y133 := by kernel_rfl
/-- []*wire.TxOut -/
def y134 : Ty := ⟨.slc 159, 1, false, .slice none 0 0, 24⟩
theorem ty134 : tyOf Try.prog 134 = some y134 := by kernel_rfl
/-- wire.MsgTx -/
def y136 : Ty := ⟨.stc [(0, 21), (1, 133), (2, 134), (3, 30)], 4, true, .agg #[.int .i32 0, .slice none 0 0, .slice none 0 0, .int .u32 0], 64⟩
theorem ty136 : tyOf Try.prog 136 = some y136 := by kernel_rfl
/-- *wire.TxIn -/
def y138 : Ty := ⟨.ptr, 1, false, .pointer none, 8⟩
theorem ty138 : tyOf Try.prog 138 = some y138 := by kernel_rfl
/-- wire.OutPoint -/
def y141 : Ty := ⟨.stc [(0, 139), (32, 30)], 33, true, .agg #[.int .u8 0, .int .u8 0, .int .u8 0, .int .u8 0, .int .u8 0, .int .u8 0, .int .u8 0, .int .u8 0, .int .u8 0, .int .u8 0, .int .u8 0, .int .u8 0, .int .u8 0, .int .u8 0, .int .u8 0, .int .u8 0, .int .u8 0, .int .u8 0, .int .u8 0, .int .u8 0, .int .u8 0, .int .u8 0, .int .u8 0, .int .u8 0, .int .u8 0, .int .u8 0, .int .u8 0, .int .u8 0, .int .u8 0, .int .u8 0, .int .u8 0, .int .u8 0, .int .u32 0], 36⟩
theorem ty141 : tyOf Try.prog 141 = some y141 := by kernel_rfl
/-- wire.TxWitness -/
def y142 : Ty := ⟨.slc 36, 1, false, .slice none 0 0, 24⟩
theorem ty142 : tyOf Try.prog 142 = some y142 := by kernel_rfl
/-- wire.TxIn -/
def y144 : Ty := ⟨.stc [(0, 141), (33, 36), (34, 142), (35, 30)], 36, true, .agg #[.int .u8 0, .int .u8 0, .int .u8 0, .int .u8 0, .int .u8 0, .int .u8 0, .int .u8 0, .int .u8 0, .int .u8 0, .int .u8 0, .int .u8 0, .int .u8 0, .int .u8 0, .int .u8 0, .int .u8 0, .int .u8 0, .int .u8 0, .int .u8 0, .int .u8 0, .int .u8 0, .int .u8 0, .int .u8 0, .int .u8 0, .int .u8 0, .int .u8 0, .int .u8 0, .int .u8 0, .int .u8 0, .int .u8 0, .int .u8 0, .int .u8 0, .int .u8 0, .int .u32 0, .slice none 0 0, .slice none 0 0, .int .u32 0], 96⟩
theorem ty144 : tyOf Try.prog 144 = some y144 := by kernel_rfl
/-- wire.TxOut -/
def y158 : Ty := ⟨.stc [(0, 2), (1, 36)], 2, true, .agg #[.int .i64 0, .slice none 0 0], 32⟩
theorem ty158 : tyOf Try.prog 158 = some y158 := by kernel_rfl
/-- *wire.TxOut -/
def y159 : Ty := ⟨.ptr, 1, false, .pointer none, 8⟩
theorem ty159 : tyOf Try.prog 159 = some y159 := by kernel_rfl

/-- function 9: pub-mintmark/laws.FnTxSizes -/
def tys9 : Nat → Option Ty := fun t => find [(32, y32), (3, y3), (36, y36), (5, y5), (4, y4)] t
theorem ok9 : TysOk Try.prog tys9 := tysOk_of ⟨ty32, ty3, ty36, ty5, ty4, trivial⟩

/-- function 26: pub-mintmark/impl.TxSizes -/
def tys26 : Nat → Option Ty := fun t => find [(32, y32)] t
theorem ok26 : TysOk Try.prog tys26 := tysOk_of ⟨ty32, trivial⟩

/-- function 27: pub-mintmark/spec.TxBytes -/
def tys27 : Nat → Option Ty := fun t => find [(32, y32), (21, y21), (28, y28), (89, y89), (29, y29), (91, y91), (30, y30), (98, y98), (36, y36), (5, y5), (3, y3), (86, y86), (87, y87)] t
theorem ok27 : TysOk Try.prog tys27 := tysOk_of ⟨ty32, ty21, ty28, ty89, ty29, ty91, ty30, ty98, ty36, ty5, ty3, ty86, ty87, trivial⟩

/-- function 28: pub-mintmark/impl.HasWitness -/
def tys28 : Nat → Option Ty := fun t => find [(32, y32)] t
theorem ok28 : TysOk Try.prog tys28 := tysOk_of ⟨ty32, trivial⟩

/-- function 29: pub-mintmark/spec.HasWitness -/
def tys29 : Nat → Option Ty := fun t => find [(32, y32), (21, y21), (28, y28), (89, y89), (29, y29), (91, y91), (30, y30), (3, y3), (86, y86), (36, y36), (5, y5), (87, y87)] t
theorem ok29 : TysOk Try.prog tys29 := tysOk_of ⟨ty32, ty21, ty28, ty89, ty29, ty91, ty30, ty3, ty86, ty36, ty5, ty87, trivial⟩

/-- function 63: (*pub-mintmark/pub/btcdwire.MsgTx).SerializeSizeStripped -/
def tys63 : Nat → Option Ty := fun t => find [] t
theorem ok63 : TysOk Try.prog tys63 := tysOk_of trivial

/-- function 64: (*pub-mintmark/pub/btcdwire.MsgTx).SerializeSize -/
def tys64 : Nat → Option Ty := fun t => find [(3, y3), (136, y136), (21, y21), (133, y133), (138, y138), (134, y134), (159, y159), (30, y30), (144, y144), (141, y141), (36, y36), (5, y5), (142, y142)] t
theorem ok64 : TysOk Try.prog tys64 := tysOk_of ⟨ty3, ty136, ty21, ty133, ty138, ty134, ty159, ty30, ty144, ty141, ty36, ty5, ty142, trivial⟩

/-- function 65: pub-mintmark/spec.little -/
def tys65 : Nat → Option Ty := fun t => find [(3, y3), (98, y98), (5, y5), (36, y36)] t
theorem ok65 : TysOk Try.prog tys65 := tysOk_of ⟨ty3, ty98, ty5, ty36, trivial⟩

/-- function 66: pub-mintmark/spec.VarInt -/
def tys66 : Nat → Option Ty := fun t => find [(98, y98), (5, y5), (36, y36)] t
theorem ok66 : TysOk Try.prog tys66 := tysOk_of ⟨ty98, ty5, ty36, trivial⟩

/-- function 67: pub-mintmark/spec.inBytes -/
def tys67 : Nat → Option Ty := fun t => find [(89, y89), (36, y36), (5, y5), (86, y86), (87, y87), (30, y30), (60, y60), (98, y98)] t
theorem ok67 : TysOk Try.prog tys67 := tysOk_of ⟨ty89, ty36, ty5, ty86, ty87, ty30, ty60, ty98, trivial⟩

/-- function 68: pub-mintmark/spec.outBytes -/
def tys68 : Nat → Option Ty := fun t => find [(91, y91), (2, y2), (36, y36), (5, y5), (98, y98)] t
theorem ok68 : TysOk Try.prog tys68 := tysOk_of ⟨ty91, ty2, ty36, ty5, ty98, trivial⟩

/-- function 69: pub-mintmark/spec.witnessBytes -/
def tys69 : Nat → Option Ty := fun t => find [(87, y87), (36, y36), (5, y5), (3, y3), (98, y98)] t
theorem ok69 : TysOk Try.prog tys69 := tysOk_of ⟨ty87, ty36, ty5, ty3, ty98, trivial⟩

/-- function 70: (*pub-mintmark/pub/btcdwire.MsgTx).HasWitness -/
def tys70 : Nat → Option Ty := fun t => find [(136, y136), (21, y21), (133, y133), (138, y138), (134, y134), (159, y159), (30, y30), (3, y3), (144, y144), (141, y141), (36, y36), (5, y5), (142, y142)] t
theorem ok70 : TysOk Try.prog tys70 := tysOk_of ⟨ty136, ty21, ty133, ty138, ty134, ty159, ty30, ty3, ty144, ty141, ty36, ty5, ty142, trivial⟩

/-- function 94: (*pub-mintmark/pub/btcdwire.MsgTx).baseSize -/
def tys94 : Nat → Option Ty := fun t => find [(136, y136), (21, y21), (133, y133), (138, y138), (134, y134), (159, y159), (30, y30), (3, y3), (98, y98)] t
theorem ok94 : TysOk Try.prog tys94 := tysOk_of ⟨ty136, ty21, ty133, ty138, ty134, ty159, ty30, ty3, ty98, trivial⟩

/-- function 95: (pub-mintmark/pub/btcdwire.TxWitness).SerializeSize -/
def tys95 : Nat → Option Ty := fun t => find [(142, y142), (36, y36), (5, y5), (3, y3), (98, y98)] t
theorem ok95 : TysOk Try.prog tys95 := tysOk_of ⟨ty142, ty36, ty5, ty3, ty98, trivial⟩

/-- function 96: pub-mintmark/spec.VarBytes -/
def tys96 : Nat → Option Ty := fun t => find [(36, y36), (5, y5), (3, y3), (98, y98)] t
theorem ok96 : TysOk Try.prog tys96 := tysOk_of ⟨ty36, ty5, ty3, ty98, trivial⟩

/-- function 116: pub-mintmark/pub/btcdwire.VarIntSerializeSize -/
def tys116 : Nat → Option Ty := fun t => find [(98, y98)] t
theorem ok116 : TysOk Try.prog tys116 := tysOk_of ⟨ty98, trivial⟩

/-- function 117: (*pub-mintmark/pub/btcdwire.TxIn).SerializeSize -/
def tys117 : Nat → Option Ty := fun t => find [(144, y144), (141, y141), (36, y36), (5, y5), (142, y142), (30, y30), (3, y3), (98, y98)] t
theorem ok117 : TysOk Try.prog tys117 := tysOk_of ⟨ty144, ty141, ty36, ty5, ty142, ty30, ty3, ty98, trivial⟩

/-- function 118: (*pub-mintmark/pub/btcdwire.TxOut).SerializeSize -/
def tys118 : Nat → Option Ty := fun t => find [(158, y158), (2, y2), (36, y36), (5, y5), (3, y3), (98, y98)] t
theorem ok118 : TysOk Try.prog tys118 := tysOk_of ⟨ty158, ty2, ty36, ty5, ty3, ty98, trivial⟩
end Go.Proofs.Ytclkimgpdnldnaa.Tytb
