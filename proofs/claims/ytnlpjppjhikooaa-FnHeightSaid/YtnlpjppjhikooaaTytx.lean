/- The types that some functions name, as the evaluator wants them. Printed by a program of my own (seatgen.py). -/
import Derived.Test.YtnlpjppjhikooaaSl
import Derived.Test.YtnlpjppjhikooaaProg
import Derived.KernelRfl
namespace Go.Proofs.Ytnlpjppjhikooaa.Tytx
open Go Go.Se Go.Proofs

/-- int64 -/
def y2 : Ty := ⟨.int .i64, 1, false, .int .i64 0, 8⟩
theorem ty2 : tyOf Try.prog 2 = some y2 := by kernel_rfl
/-- int -/
def y3 : Ty := ⟨.int .i64, 1, false, .int .i64 0, 8⟩
theorem ty3 : tyOf Try.prog 3 = some y3 := by kernel_rfl
/-- uint8 -/
def y5 : Ty := ⟨.int .u8, 1, false, .int .u8 0, 1⟩
theorem ty5 : tyOf Try.prog 5 = some y5 := by kernel_rfl
/-- int32 -/
def y21 : Ty := ⟨.int .i32, 1, false, .int .i32 0, 4⟩
theorem ty21 : tyOf Try.prog 21 = some y21 := by kernel_rfl
/-- []uint8 -/
def y22 : Ty := ⟨.slc 5, 1, false, .slice none 0 0, 24⟩
theorem ty22 : tyOf Try.prog 22 = some y22 := by kernel_rfl
/-- uint32 -/
def y23 : Ty := ⟨.int .u32, 1, false, .int .u32 0, 4⟩
theorem ty23 : tyOf Try.prog 23 = some y23 := by kernel_rfl
/-- [32]uint8 -/
def y36 : Ty := ⟨.arr 32 5, 32, true, .agg #[.int .u8 0, .int .u8 0, .int .u8 0, .int .u8 0, .int .u8 0, .int .u8 0, .int .u8 0, .int .u8 0, .int .u8 0, .int .u8 0, .int .u8 0, .int .u8 0, .int .u8 0, .int .u8 0, .int .u8 0, .int .u8 0, .int .u8 0, .int .u8 0, .int .u8 0, .int .u8 0, .int .u8 0, .int .u8 0, .int .u8 0, .int .u8 0, .int .u8 0, .int .u8 0, .int .u8 0, .int .u8 0, .int .u8 0, .int .u8 0, .int .u8 0, .int .u8 0], 32⟩
theorem ty36 : tyOf Try.prog 36 = some y36 := by kernel_rfl
/-- impl.OutPoint -/
def y38 : Ty := ⟨.stc [(0, 36), (32, 23)], 33, true, .agg #[.int .u8 0, .int .u8 0, .int .u8 0, .int .u8 0, .int .u8 0, .int .u8 0, .int .u8 0, .int .u8 0, .int .u8 0, .int .u8 0, .int .u8 0, .int .u8 0, .int .u8 0, .int .u8 0, .int .u8 0, .int .u8 0, .int .u8 0, .int .u8 0, .int .u8 0, .int .u8 0, .int .u8 0, .int .u8 0, .int .u8 0, .int .u8 0, .int .u8 0, .int .u8 0, .int .u8 0, .int .u8 0, .int .u8 0, .int .u8 0, .int .u8 0, .int .u8 0, .int .u32 0], 36⟩
theorem ty38 : tyOf Try.prog 38 = some y38 := by kernel_rfl
/-- [][]uint8 -/
def y40 : Ty := ⟨.slc 22, 1, false, .slice none 0 0, 24⟩
theorem ty40 : tyOf Try.prog 40 = some y40 := by kernel_rfl
/-- impl.TxIn -/
def y42 : Ty := ⟨.stc [(0, 38), (33, 22), (34, 40), (35, 23)], 36, true, .agg #[.int .u8 0, .int .u8 0, .int .u8 0, .int .u8 0, .int .u8 0, .int .u8 0, .int .u8 0, .int .u8 0, .int .u8 0, .int .u8 0, .int .u8 0, .int .u8 0, .int .u8 0, .int .u8 0, .int .u8 0, .int .u8 0, .int .u8 0, .int .u8 0, .int .u8 0, .int .u8 0, .int .u8 0, .int .u8 0, .int .u8 0, .int .u8 0, .int .u8 0, .int .u8 0, .int .u8 0, .int .u8 0, .int .u8 0, .int .u8 0, .int .u8 0, .int .u8 0, .int .u32 0, .slice none 0 0, .slice none 0 0, .int .u32 0], 96⟩
theorem ty42 : tyOf Try.prog 42 = some y42 := by kernel_rfl
/-- []impl.TxIn -/
def y43 : Ty := ⟨.slc 42, 1, false, .slice none 0 0, 24⟩
theorem ty43 : tyOf Try.prog 43 = some y43 := by kernel_rfl
/-- impl.TxOut -/
def y45 : Ty := ⟨.stc [(0, 2), (1, 22)], 2, true, .agg #[.int .i64 0, .slice none 0 0], 32⟩
theorem ty45 : tyOf Try.prog 45 = some y45 := by kernel_rfl
/-- []impl.TxOut -/
def y46 : Ty := ⟨.slc 45, 1, false, .slice none 0 0, 24⟩
theorem ty46 : tyOf Try.prog 46 = some y46 := by kernel_rfl
/-- impl.Tx -/
def y48 : Ty := ⟨.stc [(0, 21), (1, 43), (2, 46), (3, 23)], 4, true, .agg #[.int .i32 0, .slice none 0 0, .slice none 0 0, .int .u32 0], 64⟩
theorem ty48 : tyOf Try.prog 48 = some y48 := by kernel_rfl
/-- chainhash.Hash -/
def y92 : Ty := ⟨.arr 32 5, 32, true, .agg #[.int .u8 0, .int .u8 0, .int .u8 0, .int .u8 0, .int .u8 0, .int .u8 0, .int .u8 0, .int .u8 0, .int .u8 0, .int .u8 0, .int .u8 0, .int .u8 0, .int .u8 0, .int .u8 0, .int .u8 0, .int .u8 0, .int .u8 0, .int .u8 0, .int .u8 0, .int .u8 0, .int .u8 0, .int .u8 0, .int .u8 0, .int .u8 0, .int .u8 0, .int .u8 0, .int .u8 0, .int .u8 0, .int .u8 0, .int .u8 0, .int .u8 0, .int .u8 0], 32⟩
theorem ty92 : tyOf Try.prog 92 = some y92 := by kernel_rfl
/-- wire.OutPoint -/
def y94 : Ty := ⟨.stc [(0, 92), (32, 23)], 33, true, .agg #[.int .u8 0, .int .u8 0, .int .u8 0, .int .u8 0, .int .u8 0, .int .u8 0, .int .u8 0, .int .u8 0, .int .u8 0, .int .u8 0, .int .u8 0, .int .u8 0, .int .u8 0, .int .u8 0, .int .u8 0, .int .u8 0, .int .u8 0, .int .u8 0, .int .u8 0, .int .u8 0, .int .u8 0, .int .u8 0, .int .u8 0, .int .u8 0, .int .u8 0, .int .u8 0, .int .u8 0, .int .u8 0, .int .u8 0, .int .u8 0, .int .u8 0, .int .u8 0, .int .u32 0], 36⟩
theorem ty94 : tyOf Try.prog 94 = some y94 := by kernel_rfl
/-- wire.TxWitness -/
def y95 : Ty := ⟨.slc 22, 1, false, .slice none 0 0, 24⟩
theorem ty95 : tyOf Try.prog 95 = some y95 := by kernel_rfl
/-- wire.TxIn -/
def y97 : Ty := ⟨.stc [(0, 94), (33, 22), (34, 95), (35, 23)], 36, true, .agg #[.int .u8 0, .int .u8 0, .int .u8 0, .int .u8 0, .int .u8 0, .int .u8 0, .int .u8 0, .int .u8 0, .int .u8 0, .int .u8 0, .int .u8 0, .int .u8 0, .int .u8 0, .int .u8 0, .int .u8 0, .int .u8 0, .int .u8 0, .int .u8 0, .int .u8 0, .int .u8 0, .int .u8 0, .int .u8 0, .int .u8 0, .int .u8 0, .int .u8 0, .int .u8 0, .int .u8 0, .int .u8 0, .int .u8 0, .int .u8 0, .int .u8 0, .int .u8 0, .int .u32 0, .slice none 0 0, .slice none 0 0, .int .u32 0], 96⟩
theorem ty97 : tyOf Try.prog 97 = some y97 := by kernel_rfl
/-- *wire.TxIn -/
def y98 : Ty := ⟨.ptr, 1, false, .pointer none, 8⟩
theorem ty98 : tyOf Try.prog 98 = some y98 := by kernel_rfl
/-- []*wire.TxIn -/
def y99 : Ty := ⟨.slc 98, 1, false, .slice none 0 0, 24⟩
theorem ty99 : tyOf Try.prog 99 = some y99 := by kernel_rfl
/-- []*wire.TxOut -/
def y100 : Ty := ⟨.slc 138, 1, false, .slice none 0 0, 24⟩
theorem ty100 : tyOf Try.prog 100 = some y100 := by kernel_rfl
/-- wire.MsgTx -/
def y102 : Ty := ⟨.stc [(0, 21), (1, 99), (2, 100), (3, 23)], 4, true, .agg #[.int .i32 0, .slice none 0 0, .slice none 0 0, .int .u32 0], 64⟩
theorem ty102 : tyOf Try.prog 102 = some y102 := by kernel_rfl
/-- *wire.MsgTx -/
def y103 : Ty := ⟨.ptr, 1, false, .pointer none, 8⟩
theorem ty103 : tyOf Try.prog 103 = some y103 := by kernel_rfl
/-- *chainhash.Hash -/
def y124 : Ty := ⟨.ptr, 1, false, .pointer none, 8⟩
theorem ty124 : tyOf Try.prog 124 = some y124 := by kernel_rfl
/-- *bool -/
def y125 : Ty := ⟨.ptr, 1, false, .pointer none, 8⟩
theorem ty125 : tyOf Try.prog 125 = some y125 := by kernel_rfl
/-- btcutil.Tx -/
def y127 : Ty := ⟨.stc [(0, 103), (1, 124), (2, 124), (3, 125), (4, 3), (5, 22)], 6, true, .agg #[.pointer none, .pointer none, .pointer none, .pointer none, .int .i64 0, .slice none 0 0], 64⟩
theorem ty127 : tyOf Try.prog 127 = some y127 := by kernel_rfl
/-- *wire.TxOut -/
def y138 : Ty := ⟨.ptr, 1, false, .pointer none, 8⟩
theorem ty138 : tyOf Try.prog 138 = some y138 := by kernel_rfl
/-- wire.TxOut -/
def y140 : Ty := ⟨.stc [(0, 2), (1, 22)], 2, true, .agg #[.int .i64 0, .slice none 0 0], 32⟩
theorem ty140 : tyOf Try.prog 140 = some y140 := by kernel_rfl

/-- function 26: pub-mintmark/impl.copied -/
def tys26 : Nat → Option Ty := fun t => find [(22, y22), (5, y5)] t
theorem ok26 : TysOk Try.prog tys26 := tysOk_of ⟨ty22, ty5, trivial⟩

/-- function 30: pub-mintmark/impl.utilTx -/
def tys30 : Nat → Option Ty := fun t => find [(48, y48)] t
theorem ok30 : TysOk Try.prog tys30 := tysOk_of ⟨ty48, trivial⟩

/-- function 47: pub-mintmark/pub/btcdbtcutil.NewTx -/
def tys47 : Nat → Option Ty := fun t => find [(127, y127), (103, y103), (124, y124), (125, y125), (3, y3), (22, y22), (5, y5)] t
theorem ok47 : TysOk Try.prog tys47 := tysOk_of ⟨ty127, ty103, ty124, ty125, ty3, ty22, ty5, trivial⟩

/-- function 48: pub-mintmark/impl.txOf -/
def tys48 : Nat → Option Ty := fun t => find [(48, y48), (21, y21), (43, y43), (42, y42), (46, y46), (45, y45), (23, y23), (102, y102), (99, y99), (98, y98), (100, y100), (138, y138), (3, y3), (38, y38), (22, y22), (5, y5), (40, y40), (97, y97), (94, y94), (95, y95), (2, y2), (140, y140)] t
theorem ok48 : TysOk Try.prog tys48 := tysOk_of ⟨ty48, ty21, ty43, ty42, ty46, ty45, ty23, ty102, ty99, ty98, ty100, ty138, ty3, ty38, ty22, ty5, ty40, ty97, ty94, ty95, ty2, ty140, trivial⟩

/-- function 65: pub-mintmark/impl.outPoint -/
def tys65 : Nat → Option Ty := fun t => find [(38, y38), (94, y94), (36, y36), (5, y5), (23, y23), (92, y92)] t
theorem ok65 : TysOk Try.prog tys65 := tysOk_of ⟨ty38, ty94, ty36, ty5, ty23, ty92, trivial⟩

/-- function 66: pub-mintmark/impl.copies -/
def tys66 : Nat → Option Ty := fun t => find [(40, y40), (22, y22), (5, y5), (3, y3)] t
theorem ok66 : TysOk Try.prog tys66 := tysOk_of ⟨ty40, ty22, ty5, ty3, trivial⟩
end Go.Proofs.Ytnlpjppjhikooaa.Tytx
