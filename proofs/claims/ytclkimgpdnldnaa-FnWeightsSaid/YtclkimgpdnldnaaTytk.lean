/- The types that some functions name, as the evaluator wants them. Printed by a program of my own (seatgen.py). -/
import Derived.Test.YtclkimgpdnldnaaSl
import Derived.Test.YtclkimgpdnldnaaProg
import Derived.KernelRfl
namespace Go.Proofs.Ytclkimgpdnldnaa.Tytk
open Go Go.Se Go.Proofs

/-- int64 -/
def y2 : Ty := ⟨.int .i64, 1, false, .int .i64 0, 8⟩
theorem ty2 : tyOf Try.prog 2 = some y2 := by kernel_rfl
/-- int -/
def y3 : Ty := ⟨.int .i64, 1, false, .int .i64 0, 8⟩
theorem ty3 : tyOf Try.prog 3 = some y3 := by kernel_rfl
/-- bool -/
def y4 : Ty := ⟨.bool, 1, false, .bool false, 1⟩
theorem ty4 : tyOf Try.prog 4 = some y4 := by kernel_rfl
/-- uint8 -/
def y5 : Ty := ⟨.int .u8, 1, false, .int .u8 0, 1⟩
theorem ty5 : tyOf Try.prog 5 = some y5 := by kernel_rfl
/-- int32 -/
def y21 : Ty := ⟨.int .i32, 1, false, .int .i32 0, 4⟩
theorem ty21 : tyOf Try.prog 21 = some y21 := by kernel_rfl
/-- []impl.TxIn -/
def y28 : Ty := ⟨.slc 89, 1, false, .slice none 0 0, 24⟩
theorem ty28 : tyOf Try.prog 28 = some y28 := by kernel_rfl
/-- []impl.TxOut -/
def y29 : Ty := ⟨.slc 91, 1, false, .slice none 0 0, 24⟩
theorem ty29 : tyOf Try.prog 29 = some y29 := by kernel_rfl
/-- uint32 -/
def y30 : Ty := ⟨.int .u32, 1, false, .int .u32 0, 4⟩
theorem ty30 : tyOf Try.prog 30 = some y30 := by kernel_rfl
/-- impl.Tx -/
def y32 : Ty := ⟨.stc [(0, 21), (1, 28), (2, 29), (3, 30)], 4, true, .agg #[.int .i32 0, .slice none 0 0, .slice none 0 0, .int .u32 0], 64⟩
theorem ty32 : tyOf Try.prog 32 = some y32 := by kernel_rfl
/-- []uint8 -/
def y36 : Ty := ⟨.slc 5, 1, false, .slice none 0 0, 24⟩
theorem ty36 : tyOf Try.prog 36 = some y36 := by kernel_rfl
/-- [32]uint8 -/
def y60 : Ty := ⟨.arr 32 5, 32, true, .agg #[.int .u8 0, .int .u8 0, .int .u8 0, .int .u8 0, .int .u8 0, .int .u8 0, .int .u8 0, .int .u8 0, .int .u8 0, .int .u8 0, .int .u8 0, .int .u8 0, .int .u8 0, .int .u8 0, .int .u8 0, .int .u8 0, .int .u8 0, .int .u8 0, .int .u8 0, .int .u8 0, .int .u8 0, .int .u8 0, .int .u8 0, .int .u8 0, .int .u8 0, .int .u8 0, .int .u8 0, .int .u8 0, .int .u8 0, .int .u8 0, .int .u8 0, .int .u8 0], 32⟩
theorem ty60 : tyOf Try.prog 60 = some y60 := by kernel_rfl
/-- impl.Header -/
def y62 : Ty := ⟨.stc [(0, 21), (1, 60), (33, 60), (65, 30), (66, 30), (67, 30)], 68, true, .agg #[.int .i32 0, .int .u8 0, .int .u8 0, .int .u8 0, .int .u8 0, .int .u8 0, .int .u8 0, .int .u8 0, .int .u8 0, .int .u8 0, .int .u8 0, .int .u8 0, .int .u8 0, .int .u8 0, .int .u8 0, .int .u8 0, .int .u8 0, .int .u8 0, .int .u8 0, .int .u8 0, .int .u8 0, .int .u8 0, .int .u8 0, .int .u8 0, .int .u8 0, .int .u8 0, .int .u8 0, .int .u8 0, .int .u8 0, .int .u8 0, .int .u8 0, .int .u8 0, .int .u8 0, .int .u8 0, .int .u8 0, .int .u8 0, .int .u8 0, .int .u8 0, .int .u8 0, .int .u8 0, .int .u8 0, .int .u8 0, .int .u8 0, .int .u8 0, .int .u8 0, .int .u8 0, .int .u8 0, .int .u8 0, .int .u8 0, .int .u8 0, .int .u8 0, .int .u8 0, .int .u8 0, .int .u8 0, .int .u8 0, .int .u8 0, .int .u8 0, .int .u8 0, .int .u8 0, .int .u8 0, .int .u8 0, .int .u8 0, .int .u8 0, .int .u8 0, .int .u8 0, .int .u32 0, .int .u32 0, .int .u32 0], 80⟩
theorem ty62 : tyOf Try.prog 62 = some y62 := by kernel_rfl
/-- []impl.Tx -/
def y63 : Ty := ⟨.slc 32, 1, false, .slice none 0 0, 24⟩
theorem ty63 : tyOf Try.prog 63 = some y63 := by kernel_rfl
/-- impl.Block -/
def y65 : Ty := ⟨.stc [(0, 62), (68, 63)], 69, true, .agg #[.int .i32 0, .int .u8 0, .int .u8 0, .int .u8 0, .int .u8 0, .int .u8 0, .int .u8 0, .int .u8 0, .int .u8 0, .int .u8 0, .int .u8 0, .int .u8 0, .int .u8 0, .int .u8 0, .int .u8 0, .int .u8 0, .int .u8 0, .int .u8 0, .int .u8 0, .int .u8 0, .int .u8 0, .int .u8 0, .int .u8 0, .int .u8 0, .int .u8 0, .int .u8 0, .int .u8 0, .int .u8 0, .int .u8 0, .int .u8 0, .int .u8 0, .int .u8 0, .int .u8 0, .int .u8 0, .int .u8 0, .int .u8 0, .int .u8 0, .int .u8 0, .int .u8 0, .int .u8 0, .int .u8 0, .int .u8 0, .int .u8 0, .int .u8 0, .int .u8 0, .int .u8 0, .int .u8 0, .int .u8 0, .int .u8 0, .int .u8 0, .int .u8 0, .int .u8 0, .int .u8 0, .int .u8 0, .int .u8 0, .int .u8 0, .int .u8 0, .int .u8 0, .int .u8 0, .int .u8 0, .int .u8 0, .int .u8 0, .int .u8 0, .int .u8 0, .int .u8 0, .int .u32 0, .int .u32 0, .int .u32 0, .slice none 0 0], 104⟩
theorem ty65 : tyOf Try.prog 65 = some y65 := by kernel_rfl
/-- *wire.MsgBlock -/
def y72 : Ty := ⟨.ptr, 1, false, .pointer none, 8⟩
theorem ty72 : tyOf Try.prog 72 = some y72 := by kernel_rfl
/-- *chainhash.Hash -/
def y73 : Ty := ⟨.ptr, 1, false, .pointer none, 8⟩
theorem ty73 : tyOf Try.prog 73 = some y73 := by kernel_rfl
/-- impl.TxIn -/
def y89 : Ty := ⟨.stc [(0, 86), (33, 36), (34, 87), (35, 30)], 36, true, .agg #[.int .u8 0, .int .u8 0, .int .u8 0, .int .u8 0, .int .u8 0, .int .u8 0, .int .u8 0, .int .u8 0, .int .u8 0, .int .u8 0, .int .u8 0, .int .u8 0, .int .u8 0, .int .u8 0, .int .u8 0, .int .u8 0, .int .u8 0, .int .u8 0, .int .u8 0, .int .u8 0, .int .u8 0, .int .u8 0, .int .u8 0, .int .u8 0, .int .u8 0, .int .u8 0, .int .u8 0, .int .u8 0, .int .u8 0, .int .u8 0, .int .u8 0, .int .u8 0, .int .u32 0, .slice none 0 0, .slice none 0 0, .int .u32 0], 96⟩
theorem ty89 : tyOf Try.prog 89 = some y89 := by kernel_rfl
/-- impl.TxOut -/
def y91 : Ty := ⟨.stc [(0, 2), (1, 36)], 2, true, .agg #[.int .i64 0, .slice none 0 0], 32⟩
theorem ty91 : tyOf Try.prog 91 = some y91 := by kernel_rfl
/-- *btcutil.Tx -/
def y93 : Ty := ⟨.ptr, 1, false, .pointer none, 8⟩
theorem ty93 : tyOf Try.prog 93 = some y93 := by kernel_rfl
/-- time.Time -/
def y96 : Ty := ⟨.stc [(0, 2)], 1, true, .agg #[.int .i64 0], 8⟩
theorem ty96 : tyOf Try.prog 96 = some y96 := by kernel_rfl
/-- uint64 -/
def y98 : Ty := ⟨.int .u64, 1, false, .int .u64 0, 8⟩
theorem ty98 : tyOf Try.prog 98 = some y98 := by kernel_rfl
/-- *wire.MsgTx -/
def y110 : Ty := ⟨.ptr, 1, false, .pointer none, 8⟩
theorem ty110 : tyOf Try.prog 110 = some y110 := by kernel_rfl
/-- chainhash.Hash -/
def y139 : Ty := ⟨.arr 32 5, 32, true, .agg #[.int .u8 0, .int .u8 0, .int .u8 0, .int .u8 0, .int .u8 0, .int .u8 0, .int .u8 0, .int .u8 0, .int .u8 0, .int .u8 0, .int .u8 0, .int .u8 0, .int .u8 0, .int .u8 0, .int .u8 0, .int .u8 0, .int .u8 0, .int .u8 0, .int .u8 0, .int .u8 0, .int .u8 0, .int .u8 0, .int .u8 0, .int .u8 0, .int .u8 0, .int .u8 0, .int .u8 0, .int .u8 0, .int .u8 0, .int .u8 0, .int .u8 0, .int .u8 0], 32⟩
theorem ty139 : tyOf Try.prog 139 = some y139 := by kernel_rfl
/-- []*btcutil.Tx -/
def y202 : Ty := ⟨.slc 93, 1, false, .slice none 0 0, 24⟩
theorem ty202 : tyOf Try.prog 202 = some y202 := by kernel_rfl
/-- btcutil.Block -/
def y204 : Ty := ⟨.stc [(0, 72), (1, 36), (2, 36), (3, 73), (4, 21), (5, 202), (6, 4)], 7, true, .agg #[.pointer none, .slice none 0 0, .slice none 0 0, .pointer none, .int .i32 0, .slice none 0 0, .bool false], 104⟩
theorem ty204 : tyOf Try.prog 204 = some y204 := by kernel_rfl
/-- wire.BlockHeader -/
def y206 : Ty := ⟨.stc [(0, 21), (1, 139), (33, 139), (65, 96), (66, 30), (67, 30)], 68, true, .agg #[.int .i32 0, .int .u8 0, .int .u8 0, .int .u8 0, .int .u8 0, .int .u8 0, .int .u8 0, .int .u8 0, .int .u8 0, .int .u8 0, .int .u8 0, .int .u8 0, .int .u8 0, .int .u8 0, .int .u8 0, .int .u8 0, .int .u8 0, .int .u8 0, .int .u8 0, .int .u8 0, .int .u8 0, .int .u8 0, .int .u8 0, .int .u8 0, .int .u8 0, .int .u8 0, .int .u8 0, .int .u8 0, .int .u8 0, .int .u8 0, .int .u8 0, .int .u8 0, .int .u8 0, .int .u8 0, .int .u8 0, .int .u8 0, .int .u8 0, .int .u8 0, .int .u8 0, .int .u8 0, .int .u8 0, .int .u8 0, .int .u8 0, .int .u8 0, .int .u8 0, .int .u8 0, .int .u8 0, .int .u8 0, .int .u8 0, .int .u8 0, .int .u8 0, .int .u8 0, .int .u8 0, .int .u8 0, .int .u8 0, .int .u8 0, .int .u8 0, .int .u8 0, .int .u8 0, .int .u8 0, .int .u8 0, .int .u8 0, .int .u8 0, .int .u8 0, .int .u8 0, .int .i64 0, .int .u32 0, .int .u32 0], 88⟩
theorem ty206 : tyOf Try.prog 206 = some y206 := by kernel_rfl
/-- []*wire.MsgTx -/
def y207 : Ty := ⟨.slc 110, 1, false, .slice none 0 0, 24⟩
theorem ty207 : tyOf Try.prog 207 = some y207 := by kernel_rfl
/-- wire.MsgBlock -/
def y209 : Ty := ⟨.stc [(0, 206), (68, 207)], 69, true, .agg #[.int .i32 0, .int .u8 0, .int .u8 0, .int .u8 0, .int .u8 0, .int .u8 0, .int .u8 0, .int .u8 0, .int .u8 0, .int .u8 0, .int .u8 0, .int .u8 0, .int .u8 0, .int .u8 0, .int .u8 0, .int .u8 0, .int .u8 0, .int .u8 0, .int .u8 0, .int .u8 0, .int .u8 0, .int .u8 0, .int .u8 0, .int .u8 0, .int .u8 0, .int .u8 0, .int .u8 0, .int .u8 0, .int .u8 0, .int .u8 0, .int .u8 0, .int .u8 0, .int .u8 0, .int .u8 0, .int .u8 0, .int .u8 0, .int .u8 0, .int .u8 0, .int .u8 0, .int .u8 0, .int .u8 0, .int .u8 0, .int .u8 0, .int .u8 0, .int .u8 0, .int .u8 0, .int .u8 0, .int .u8 0, .int .u8 0, .int .u8 0, .int .u8 0, .int .u8 0, .int .u8 0, .int .u8 0, .int .u8 0, .int .u8 0, .int .u8 0, .int .u8 0, .int .u8 0, .int .u8 0, .int .u8 0, .int .u8 0, .int .u8 0, .int .u8 0, .int .u8 0, .int .i64 0, .int .u32 0, .int .u32 0, .slice none 0 0], 112⟩
theorem ty209 : tyOf Try.prog 209 = some y209 := by kernel_rfl

/-- function 12: pub-mintmark/laws.FnWeights -/
def tys12 : Nat → Option Ty := fun t => find [(65, y65), (3, y3), (62, y62), (63, y63), (32, y32)] t
theorem ok12 : TysOk Try.prog tys12 := tysOk_of ⟨ty65, ty3, ty62, ty63, ty32, trivial⟩

/-- function 38: pub-mintmark/laws.zzFits8 -/
def tys38 : Nat → Option Ty := fun t => find [(65, y65), (62, y62), (63, y63), (32, y32)] t
theorem ok38 : TysOk Try.prog tys38 := tysOk_of ⟨ty65, ty62, ty63, ty32, trivial⟩

/-- function 39: pub-mintmark/laws.blockSize -/
def tys39 : Nat → Option Ty := fun t => find [(65, y65), (62, y62), (63, y63), (32, y32), (3, y3)] t
theorem ok39 : TysOk Try.prog tys39 := tysOk_of ⟨ty65, ty62, ty63, ty32, ty3, trivial⟩

/-- function 40: pub-mintmark/impl.TxWeight -/
def tys40 : Nat → Option Ty := fun t => find [(32, y32)] t
theorem ok40 : TysOk Try.prog tys40 := tysOk_of ⟨ty32, trivial⟩

/-- function 41: pub-mintmark/spec.TxWeight -/
def tys41 : Nat → Option Ty := fun t => find [(32, y32), (36, y36), (5, y5), (3, y3)] t
theorem ok41 : TysOk Try.prog tys41 := tysOk_of ⟨ty32, ty36, ty5, ty3, trivial⟩

/-- function 42: pub-mintmark/impl.BlockWeight -/
def tys42 : Nat → Option Ty := fun t => find [(65, y65)] t
theorem ok42 : TysOk Try.prog tys42 := tysOk_of ⟨ty65, trivial⟩

/-- function 43: pub-mintmark/spec.BlockWeight -/
def tys43 : Nat → Option Ty := fun t => find [(65, y65), (36, y36), (5, y5), (3, y3)] t
theorem ok43 : TysOk Try.prog tys43 := tysOk_of ⟨ty65, ty36, ty5, ty3, trivial⟩

/-- function 76: pub-mintmark/laws.zzFits9 -/
def tys76 : Nat → Option Ty := fun t => find [(63, y63), (32, y32), (3, y3)] t
theorem ok76 : TysOk Try.prog tys76 := tysOk_of ⟨ty63, ty32, ty3, trivial⟩

/-- function 77: pub-mintmark/pub/btcd/blockchain.GetTransactionWeight -/
def tys77 : Nat → Option Ty := fun t => find [(3, y3)] t
theorem ok77 : TysOk Try.prog tys77 := tysOk_of ⟨ty3, trivial⟩

/-- function 78: pub-mintmark/pub/btcd/blockchain.GetBlockWeight -/
def tys78 : Nat → Option Ty := fun t => find [(3, y3)] t
theorem ok78 : TysOk Try.prog tys78 := tysOk_of ⟨ty3, trivial⟩

/-- function 79: pub-mintmark/impl.utilBlock -/
def tys79 : Nat → Option Ty := fun t => find [(65, y65)] t
theorem ok79 : TysOk Try.prog tys79 := tysOk_of ⟨ty65, trivial⟩

/-- function 80: pub-mintmark/spec.BlockBytes -/
def tys80 : Nat → Option Ty := fun t => find [(65, y65), (62, y62), (63, y63), (32, y32), (3, y3), (98, y98), (36, y36), (5, y5)] t
theorem ok80 : TysOk Try.prog tys80 := tysOk_of ⟨ty65, ty62, ty63, ty32, ty3, ty98, ty36, ty5, trivial⟩

/-- function 106: pub-mintmark/laws.zzFits10 -/
def tys106 : Nat → Option Ty := fun t => find [(32, y32), (21, y21), (28, y28), (89, y89), (29, y29), (91, y91), (30, y30)] t
theorem ok106 : TysOk Try.prog tys106 := tysOk_of ⟨ty32, ty21, ty28, ty89, ty29, ty91, ty30, trivial⟩

/-- function 107: (*pub-mintmark/pub/btcdbtcutil.Block).MsgBlock -/
def tys107 : Nat → Option Ty := fun t => find [(204, y204), (72, y72), (36, y36), (5, y5), (73, y73), (21, y21), (202, y202), (93, y93), (4, y4)] t
theorem ok107 : TysOk Try.prog tys107 := tysOk_of ⟨ty204, ty72, ty36, ty5, ty73, ty21, ty202, ty93, ty4, trivial⟩

/-- function 108: (*pub-mintmark/pub/btcdwire.MsgBlock).SerializeSizeStripped -/
def tys108 : Nat → Option Ty := fun t => find [(209, y209), (206, y206), (207, y207), (110, y110), (3, y3), (98, y98)] t
theorem ok108 : TysOk Try.prog tys108 := tysOk_of ⟨ty209, ty206, ty207, ty110, ty3, ty98, trivial⟩

/-- function 109: (*pub-mintmark/pub/btcdwire.MsgBlock).SerializeSize -/
def tys109 : Nat → Option Ty := fun t => find [(209, y209), (206, y206), (207, y207), (110, y110), (3, y3), (98, y98)] t
theorem ok109 : TysOk Try.prog tys109 := tysOk_of ⟨ty209, ty206, ty207, ty110, ty3, ty98, trivial⟩

/-- function 110: pub-mintmark/pub/btcdbtcutil.NewBlock -/
def tys110 : Nat → Option Ty := fun t => find [(204, y204), (72, y72), (36, y36), (5, y5), (73, y73), (21, y21), (202, y202), (93, y93), (4, y4)] t
theorem ok110 : TysOk Try.prog tys110 := tysOk_of ⟨ty204, ty72, ty36, ty5, ty73, ty21, ty202, ty93, ty4, trivial⟩

/-- function 111: pub-mintmark/impl.blockOf -/
def tys111 : Nat → Option Ty := fun t => find [(65, y65), (62, y62), (63, y63), (32, y32), (206, y206), (209, y209), (207, y207), (110, y110), (3, y3)] t
theorem ok111 : TysOk Try.prog tys111 := tysOk_of ⟨ty65, ty62, ty63, ty32, ty206, ty209, ty207, ty110, ty3, trivial⟩

/-- function 112: pub-mintmark/spec.HeaderBytes -/
def tys112 : Nat → Option Ty := fun t => find [(62, y62), (21, y21), (60, y60), (5, y5), (30, y30), (98, y98), (36, y36)] t
theorem ok112 : TysOk Try.prog tys112 := tysOk_of ⟨ty62, ty21, ty60, ty5, ty30, ty98, ty36, trivial⟩

/-- function 126: pub-mintmark/impl.headerOf -/
def tys126 : Nat → Option Ty := fun t => find [(62, y62), (21, y21), (60, y60), (5, y5), (30, y30), (2, y2), (206, y206), (139, y139), (96, y96)] t
theorem ok126 : TysOk Try.prog tys126 := tysOk_of ⟨ty62, ty21, ty60, ty5, ty30, ty2, ty206, ty139, ty96, trivial⟩
end Go.Proofs.Ytclkimgpdnldnaa.Tytk
