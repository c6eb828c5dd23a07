/- The types that some functions name, as the evaluator wants them. Printed by a program of my own (seatgen.py). -/
import Derived.Test.YtclkimgpdnldnaaSl
import Derived.Test.YtclkimgpdnldnaaProg
import Derived.KernelRfl
namespace Go.Proofs.Ytclkimgpdnldnaa.Tytx
open Go Go.Se Go.Proofs

/-- int64 -/
def y2 : Ty := ⟨.int .i64, 1, false, .int .i64 0, 8⟩
theorem ty2 : tyOf Try.prog 2 = some y2 := by kernel_rfl
/-- int -/
def y3 : Ty := ⟨.int .i64, 1, false, .int .i64 0, 8⟩
theorem ty3 : tyOf Try.prog 3 = some y3 := by kernel_rfl
/-- bool -/
def y4 : Ty := ⟨.bool, 1, false, .bool false, 1⟩
theorem ty4 : tyOf Try.prog 4 = some y4 := by kernel_rfl
/-- uint8 -/
def y5 : Ty := ⟨.int .u8, 1, false, .int .u8 0, 1⟩
theorem ty5 : tyOf Try.prog 5 = some y5 := by kernel_rfl
/-- int32 -/
def y21 : Ty := ⟨.int .i32, 1, false, .int .i32 0, 4⟩
theorem ty21 : tyOf Try.prog 21 = some y21 := by kernel_rfl
/-- []impl.TxIn -/
def y28 : Ty := ⟨.slc 89, 1, false, .slice none 0 0, 24⟩
theorem ty28 : tyOf Try.prog 28 = some y28 := by kernel_rfl
/-- []impl.TxOut -/
def y29 : Ty := ⟨.slc 91, 1, false, .slice none 0 0, 24⟩
theorem ty29 : tyOf Try.prog 29 = some y29 := by kernel_rfl
/-- uint32 -/
def y30 : Ty := ⟨.int .u32, 1, false, .int .u32 0, 4⟩
theorem ty30 : tyOf Try.prog 30 = some y30 := by kernel_rfl
/-- impl.Tx -/
def y32 : Ty := ⟨.stc [(0, 21), (1, 28), (2, 29), (3, 30)], 4, true, .agg #[.int .i32 0, .slice none 0 0, .slice none 0 0, .int .u32 0], 64⟩
theorem ty32 : tyOf Try.prog 32 = some y32 := by kernel_rfl
/-- []uint8 -/
def y36 : Ty := ⟨.slc 5, 1, false, .slice none 0 0, 24⟩
theorem ty36 : tyOf Try.prog 36 = some y36 := by kernel_rfl
/-- [32]uint8 -/
def y60 : Ty := ⟨.arr 32 5, 32, true, .agg #[.int .u8 0, .int .u8 0, .int .u8 0, .int .u8 0, .int .u8 0, .int .u8 0, .int .u8 0, .int .u8 0, .int .u8 0, .int .u8 0, .int .u8 0, .int .u8 0, .int .u8 0, .int .u8 0, .int .u8 0, .int .u8 0, .int .u8 0, .int .u8 0, .int .u8 0, .int .u8 0, .int .u8 0, .int .u8 0, .int .u8 0, .int .u8 0, .int .u8 0, .int .u8 0, .int .u8 0, .int .u8 0, .int .u8 0, .int .u8 0, .int .u8 0, .int .u8 0], 32⟩
theorem ty60 : tyOf Try.prog 60 = some y60 := by kernel_rfl
/-- *chainhash.Hash -/
def y73 : Ty := ⟨.ptr, 1, false, .pointer none, 8⟩
theorem ty73 : tyOf Try.prog 73 = some y73 := by kernel_rfl
/-- impl.OutPoint -/
def y86 : Ty := ⟨.stc [(0, 60), (32, 30)], 33, true, .agg #[.int .u8 0, .int .u8 0, .int .u8 0, .int .u8 0, .int .u8 0, .int .u8 0, .int .u8 0, .int .u8 0, .int .u8 0, .int .u8 0, .int .u8 0, .int .u8 0, .int .u8 0, .int .u8 0, .int .u8 0, .int .u8 0, .int .u8 0, .int .u8 0, .int .u8 0, .int .u8 0, .int .u8 0, .int .u8 0, .int .u8 0, .int .u8 0, .int .u8 0, .int .u8 0, .int .u8 0, .int .u8 0, .int .u8 0, .int .u8 0, .int .u8 0, .int .u8 0, .int .u32 0], 36⟩
theorem ty86 : tyOf Try.prog 86 = some y86 := by kernel_rfl
/-- [][]uint8 -/
def y87 : Ty := ⟨.slc 36, 1, false, .slice none 0 0, 24⟩
theorem ty87 : tyOf Try.prog 87 = some y87 := by kernel_rfl
/-- impl.TxIn -/
def y89 : Ty := ⟨.stc [(0, 86), (33, 36), (34, 87), (35, 30)], 36, true, .agg #[.int .u8 0, .int .u8 0, .int .u8 0, .int .u8 0, .int .u8 0, .int .u8 0, .int .u8 0, .int .u8 0, .int .u8 0, .int .u8 0, .int .u8 0, .int .u8 0, .int .u8 0, .int .u8 0, .int .u8 0, .int .u8 0, .int .u8 0, .int .u8 0, .int .u8 0, .int .u8 0, .int .u8 0, .int .u8 0, .int .u8 0, .int .u8 0, .int .u8 0, .int .u8 0, .int .u8 0, .int .u8 0, .int .u8 0, .int .u8 0, .int .u8 0, .int .u8 0, .int .u32 0, .slice none 0 0, .slice none 0 0, .int .u32 0], 96⟩
theorem ty89 : tyOf Try.prog 89 = some y89 := by kernel_rfl
/-- impl.TxOut -/
def y91 : Ty := ⟨.stc [(0, 2), (1, 36)], 2, true, .agg #[.int .i64 0, .slice none 0 0], 32⟩
theorem ty91 : tyOf Try.prog 91 = some y91 := by kernel_rfl
/-- time.Time -/
def y96 : Ty := ⟨.stc [(0, 2)], 1, true, .agg #[.int .i64 0], 8⟩
theorem ty96 : tyOf Try.prog 96 = some y96 := by kernel_rfl
/-- *wire.MsgTx -/
def y110 : Ty := ⟨.ptr, 1, false, .pointer none, 8⟩
theorem ty110 : tyOf Try.prog 110 = some y110 := by kernel_rfl
/-- []*wire.TxIn -/
def y133 : Ty := ⟨.slc 138, 1, false, .slice none 0 0, 24⟩
theorem ty133 : tyOf Try.prog 133 = some y133 := by kernel_rfl
/-- []*wire.TxOut -/
def y134 : Ty := ⟨.slc 159, 1, false, .slice none 0 0, 24⟩
theorem ty134 : tyOf Try.prog 134 = some y134 := by kernel_rfl
/-- wire.MsgTx -/
def y136 : Ty := ⟨.stc [(0, 21), (1, 133), (2, 134), (3, 30)], 4, true, .agg #[.int .i32 0, .slice none 0 0, .slice none 0 0, .int .u32 0], 64⟩
theorem ty136 : tyOf Try.prog 136 = some y136 := by kernel_rfl
/-- *wire.TxIn -/
def y138 : Ty := ⟨.ptr, 1, false, .pointer none, 8⟩
theorem ty138 : tyOf Try.prog 138 = some y138 := by kernel_rfl
/-- chainhash.Hash -/
def y139 : Ty := ⟨.arr 32 5, 32, true, .agg #[.int .u8 0, .int .u8 0, .int .u8 0, .int .u8 0, .int .u8 0, .int .u8 0, .int .u8 0, .int .u8 0, .int .u8 0, .int .u8 0, .int .u8 0, .int .u8 0, .int .u8 0, .int .u8 0, .int .u8 0, .int .u8 0, .int .u8 0, .int .u8 0, .int .u8 0, .int .u8 0, .int .u8 0, .int .u8 0, .int .u8 0, .int .u8 0, .int .u8 0, .int .u8 0, .int .u8 0, .int .u8 0, .int .u8 0, .int .u8 0, .int .u8 0, .int .u8 0], 32⟩
theorem ty139 : tyOf Try.prog 139 = some y139 := by kernel_rfl
/-- wire.OutPoint -/
def y141 : Ty := ⟨.stc [(0, 139), (32, 30)], 33, true, .agg #[.int .u8 0, .int .u8 0, .int .u8 0, .int .u8 0, .int .u8 0, .int .u8 0, .int .u8 0, .int .u8 0, .int .u8 0, .int .u8 0, .int .u8 0, .int .u8 0, .int .u8 0, .int .u8 0, .int .u8 0, .int .u8 0, .int .u8 0, .int .u8 0, .int .u8 0, .int .u8 0, .int .u8 0, .int .u8 0, .int .u8 0, .int .u8 0, .int .u8 0, .int .u8 0, .int .u8 0, .int .u8 0, .int .u8 0, .int .u8 0, .int .u8 0, .int .u8 0, .int .u32 0], 36⟩
theorem ty141 : tyOf Try.prog 141 = some y141 := by kernel_rfl
/-- wire.TxWitness -/
def y142 : Ty := ⟨.slc 36, 1, false, .slice none 0 0, 24⟩
theorem ty142 : tyOf Try.prog 142 = some y142 := by kernel_rfl
/-- wire.TxIn -/
def y144 : Ty := ⟨.stc [(0, 141), (33, 36), (34, 142), (35, 30)], 36, true, .agg #[.int .u8 0, .int .u8 0, .int .u8 0, .int .u8 0, .int .u8 0, .int .u8 0, .int .u8 0, .int .u8 0, .int .u8 0, .int .u8 0, .int .u8 0, .int .u8 0, .int .u8 0, .int .u8 0, .int .u8 0, .int .u8 0, .int .u8 0, .int .u8 0, .int .u8 0, .int .u8 0, .int .u8 0, .int .u8 0, .int .u8 0, .int .u8 0, .int .u8 0, .int .u8 0, .int .u8 0, .int .u8 0, .int .u8 0, .int .u8 0, .int .u8 0, .int .u8 0, .int .u32 0, .slice none 0 0, .slice none 0 0, .int .u32 0], 96⟩
theorem ty144 : tyOf Try.prog 144 = some y144 := by kernel_rfl
/-- wire.TxOut -/
def y158 : Ty := ⟨.stc [(0, 2), (1, 36)], 2, true, .agg #[.int .i64 0, .slice none 0 0], 32⟩
theorem ty158 : tyOf Try.prog 158 = some y158 := by kernel_rfl
/-- *wire.TxOut -/
def y159 : Ty := ⟨.ptr, 1, false, .pointer none, 8⟩
theorem ty159 : tyOf Try.prog 159 = some y159 := by kernel_rfl
/-- *bool -/
def y185 : Ty := ⟨.ptr, 1, false, .pointer none, 8⟩
theorem ty185 : tyOf Try.prog 185 = some y185 := by kernel_rfl
/-- btcutil.Tx -/
def y187 : Ty := ⟨.stc [(0, 110), (1, 73), (2, 73), (3, 185), (4, 3), (5, 36)], 6, true, .agg #[.pointer none, .pointer none, .pointer none, .pointer none, .int .i64 0, .slice none 0 0], 64⟩
theorem ty187 : tyOf Try.prog 187 = some y187 := by kernel_rfl

/-- function 5: pub-mintmark/laws.FnIsFinal -/
def tys5 : Nat → Option Ty := fun t => find [(32, y32), (3, y3), (21, y21), (2, y2), (4, y4)] t
theorem ok5 : TysOk Try.prog tys5 := tysOk_of ⟨ty32, ty3, ty21, ty2, ty4, trivial⟩

/-- function 16: pub-mintmark/laws.zzFits2 -/
def tys16 : Nat → Option Ty := fun t => find [(32, y32), (21, y21), (28, y28), (89, y89), (29, y29), (91, y91), (30, y30)] t
theorem ok16 : TysOk Try.prog tys16 := tysOk_of ⟨ty32, ty21, ty28, ty89, ty29, ty91, ty30, trivial⟩

/-- function 17: pub-mintmark/laws.txSize -/
def tys17 : Nat → Option Ty := fun t => find [(32, y32), (21, y21), (28, y28), (89, y89), (29, y29), (91, y91), (30, y30), (3, y3), (86, y86), (36, y36), (5, y5), (87, y87), (2, y2)] t
theorem ok17 : TysOk Try.prog tys17 := tysOk_of ⟨ty32, ty21, ty28, ty89, ty29, ty91, ty30, ty3, ty86, ty36, ty5, ty87, ty2, trivial⟩

/-- function 18: pub-mintmark/impl.IsFinal -/
def tys18 : Nat → Option Ty := fun t => find [(32, y32)] t
theorem ok18 : TysOk Try.prog tys18 := tysOk_of ⟨ty32, trivial⟩

/-- function 19: pub-mintmark/spec.IsFinal -/
def tys19 : Nat → Option Ty := fun t => find [(32, y32), (21, y21), (28, y28), (89, y89), (29, y29), (91, y91), (30, y30), (2, y2), (3, y3), (86, y86), (36, y36), (5, y5), (87, y87)] t
theorem ok19 : TysOk Try.prog tys19 := tysOk_of ⟨ty32, ty21, ty28, ty89, ty29, ty91, ty30, ty2, ty3, ty86, ty36, ty5, ty87, trivial⟩

/-- function 47: pub-mintmark/laws.zzFits3 -/
def tys47 : Nat → Option Ty := fun t => find [(28, y28), (89, y89), (3, y3)] t
theorem ok47 : TysOk Try.prog tys47 := tysOk_of ⟨ty28, ty89, ty3, trivial⟩

/-- function 48: pub-mintmark/laws.zzFits6 -/
def tys48 : Nat → Option Ty := fun t => find [(29, y29), (91, y91), (3, y3)] t
theorem ok48 : TysOk Try.prog tys48 := tysOk_of ⟨ty29, ty91, ty3, trivial⟩

/-- function 49: pub-mintmark/laws.more -/
def tys49 : Nat → Option Ty := fun t => find [(3, y3)] t
theorem ok49 : TysOk Try.prog tys49 := tysOk_of ⟨ty3, trivial⟩

/-- function 50: pub-mintmark/pub/btcd/blockchain.IsFinalizedTransaction -/
def tys50 : Nat → Option Ty := fun t => find [(96, y96), (136, y136), (21, y21), (133, y133), (138, y138), (134, y134), (159, y159), (30, y30), (2, y2), (3, y3), (144, y144), (141, y141), (36, y36), (5, y5), (142, y142)] t
theorem ok50 : TysOk Try.prog tys50 := tysOk_of ⟨ty96, ty136, ty21, ty133, ty138, ty134, ty159, ty30, ty2, ty3, ty144, ty141, ty36, ty5, ty142, trivial⟩

/-- function 51: pub-mintmark/impl.utilTx -/
def tys51 : Nat → Option Ty := fun t => find [(32, y32)] t
theorem ok51 : TysOk Try.prog tys51 := tysOk_of ⟨ty32, trivial⟩

/-- function 52: pub-mintmark/pub/given/time.Unix -/
def tys52 : Nat → Option Ty := fun t => find [(96, y96), (2, y2)] t
theorem ok52 : TysOk Try.prog tys52 := tysOk_of ⟨ty96, ty2, trivial⟩

/-- function 57: pub-mintmark/impl.copied -/
def tys57 : Nat → Option Ty := fun t => find [(36, y36), (5, y5)] t
theorem ok57 : TysOk Try.prog tys57 := tysOk_of ⟨ty36, ty5, trivial⟩

/-- function 62: pub-mintmark/impl.txOf -/
def tys62 : Nat → Option Ty := fun t => find [(32, y32), (21, y21), (28, y28), (89, y89), (29, y29), (91, y91), (30, y30), (136, y136), (133, y133), (138, y138), (134, y134), (159, y159), (3, y3), (86, y86), (36, y36), (5, y5), (87, y87), (144, y144), (141, y141), (142, y142), (2, y2), (158, y158)] t
theorem ok62 : TysOk Try.prog tys62 := tysOk_of ⟨ty32, ty21, ty28, ty89, ty29, ty91, ty30, ty136, ty133, ty138, ty134, ty159, ty3, ty86, ty36, ty5, ty87, ty144, ty141, ty142, ty2, ty158, trivial⟩

/-- function 81: pub-mintmark/laws.zzFits4 -/
def tys81 : Nat → Option Ty := fun t => find [(89, y89), (86, y86), (36, y36), (5, y5), (87, y87), (30, y30), (3, y3)] t
theorem ok81 : TysOk Try.prog tys81 := tysOk_of ⟨ty89, ty86, ty36, ty5, ty87, ty30, ty3, trivial⟩

/-- function 82: pub-mintmark/laws.zzFits7 -/
def tys82 : Nat → Option Ty := fun t => find [(91, y91), (2, y2), (36, y36), (5, y5), (3, y3)] t
theorem ok82 : TysOk Try.prog tys82 := tysOk_of ⟨ty91, ty2, ty36, ty5, ty3, trivial⟩

/-- function 83: (*pub-mintmark/pub/btcdbtcutil.Tx).MsgTx -/
def tys83 : Nat → Option Ty := fun t => find [(187, y187), (110, y110), (73, y73), (185, y185), (3, y3), (36, y36), (5, y5)] t
theorem ok83 : TysOk Try.prog tys83 := tysOk_of ⟨ty187, ty110, ty73, ty185, ty3, ty36, ty5, trivial⟩

/-- function 84: (pub-mintmark/pub/given/time.Time).Unix -/
def tys84 : Nat → Option Ty := fun t => find [(96, y96), (2, y2)] t
theorem ok84 : TysOk Try.prog tys84 := tysOk_of ⟨ty96, ty2, trivial⟩

/-- function 85: pub-mintmark/pub/btcdbtcutil.NewTx -/
def tys85 : Nat → Option Ty := fun t => find [(187, y187), (110, y110), (73, y73), (185, y185), (3, y3), (36, y36), (5, y5)] t
theorem ok85 : TysOk Try.prog tys85 := tysOk_of ⟨ty187, ty110, ty73, ty185, ty3, ty36, ty5, trivial⟩

/-- function 92: pub-mintmark/impl.outPoint -/
def tys92 : Nat → Option Ty := fun t => find [(86, y86), (141, y141), (60, y60), (5, y5), (30, y30), (139, y139)] t
theorem ok92 : TysOk Try.prog tys92 := tysOk_of ⟨ty86, ty141, ty60, ty5, ty30, ty139, trivial⟩

/-- function 93: pub-mintmark/impl.copies -/
def tys93 : Nat → Option Ty := fun t => find [(87, y87), (36, y36), (5, y5), (3, y3)] t
theorem ok93 : TysOk Try.prog tys93 := tysOk_of ⟨ty87, ty36, ty5, ty3, trivial⟩

/-- function 113: pub-mintmark/laws.zzFits5 -/
def tys113 : Nat → Option Ty := fun t => find [(87, y87), (36, y36), (5, y5), (3, y3)] t
theorem ok113 : TysOk Try.prog tys113 := tysOk_of ⟨ty87, ty36, ty5, ty3, trivial⟩
end Go.Proofs.Ytclkimgpdnldnaa.Tytx
