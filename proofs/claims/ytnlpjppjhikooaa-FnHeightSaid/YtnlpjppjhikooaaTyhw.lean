/- The types that some functions name, as the evaluator wants them. Printed by a program of my own (seatgen.py). -/
import Derived.Test.YtnlpjppjhikooaaSl
import Derived.Test.YtnlpjppjhikooaaProg
import Derived.KernelRfl
namespace Go.Proofs.Ytnlpjppjhikooaa.Tyhw
open Go Go.Se Go.Proofs

/-- int64 -/
def y2 : Ty := ⟨.int .i64, 1, false, .int .i64 0, 8⟩
theorem ty2 : tyOf Try.prog 2 = some y2 := by kernel_rfl
/-- int -/
def y3 : Ty := ⟨.int .i64, 1, false, .int .i64 0, 8⟩
theorem ty3 : tyOf Try.prog 3 = some y3 := by kernel_rfl
/-- bool -/
def y4 : Ty := ⟨.bool, 1, false, .bool false, 1⟩
theorem ty4 : tyOf Try.prog 4 = some y4 := by kernel_rfl
/-- uint8 -/
def y5 : Ty := ⟨.int .u8, 1, false, .int .u8 0, 1⟩
theorem ty5 : tyOf Try.prog 5 = some y5 := by kernel_rfl
/-- int32 -/
def y21 : Ty := ⟨.int .i32, 1, false, .int .i32 0, 4⟩
theorem ty21 : tyOf Try.prog 21 = some y21 := by kernel_rfl
/-- []uint8 -/
def y22 : Ty := ⟨.slc 5, 1, false, .slice none 0 0, 24⟩
theorem ty22 : tyOf Try.prog 22 = some y22 := by kernel_rfl
/-- uint32 -/
def y23 : Ty := ⟨.int .u32, 1, false, .int .u32 0, 4⟩
theorem ty23 : tyOf Try.prog 23 = some y23 := by kernel_rfl
/-- [32]uint8 -/
def y36 : Ty := ⟨.arr 32 5, 32, true, .agg #[.int .u8 0, .int .u8 0, .int .u8 0, .int .u8 0, .int .u8 0, .int .u8 0, .int .u8 0, .int .u8 0, .int .u8 0, .int .u8 0, .int .u8 0, .int .u8 0, .int .u8 0, .int .u8 0, .int .u8 0, .int .u8 0, .int .u8 0, .int .u8 0, .int .u8 0, .int .u8 0, .int .u8 0, .int .u8 0, .int .u8 0, .int .u8 0, .int .u8 0, .int .u8 0, .int .u8 0, .int .u8 0, .int .u8 0, .int .u8 0, .int .u8 0, .int .u8 0], 32⟩
theorem ty36 : tyOf Try.prog 36 = some y36 := by kernel_rfl
/-- impl.OutPoint -/
def y38 : Ty := ⟨.stc [(0, 36), (32, 23)], 33, true, .agg #[.int .u8 0, .int .u8 0, .int .u8 0, .int .u8 0, .int .u8 0, .int .u8 0, .int .u8 0, .int .u8 0, .int .u8 0, .int .u8 0, .int .u8 0, .int .u8 0, .int .u8 0, .int .u8 0, .int .u8 0, .int .u8 0, .int .u8 0, .int .u8 0, .int .u8 0, .int .u8 0, .int .u8 0, .int .u8 0, .int .u8 0, .int .u8 0, .int .u8 0, .int .u8 0, .int .u8 0, .int .u8 0, .int .u8 0, .int .u8 0, .int .u8 0, .int .u8 0, .int .u32 0], 36⟩
theorem ty38 : tyOf Try.prog 38 = some y38 := by kernel_rfl
/-- [][]uint8 -/
def y40 : Ty := ⟨.slc 22, 1, false, .slice none 0 0, 24⟩
theorem ty40 : tyOf Try.prog 40 = some y40 := by kernel_rfl
/-- impl.TxIn -/
def y42 : Ty := ⟨.stc [(0, 38), (33, 22), (34, 40), (35, 23)], 36, true, .agg #[.int .u8 0, .int .u8 0, .int .u8 0, .int .u8 0, .int .u8 0, .int .u8 0, .int .u8 0, .int .u8 0, .int .u8 0, .int .u8 0, .int .u8 0, .int .u8 0, .int .u8 0, .int .u8 0, .int .u8 0, .int .u8 0, .int .u8 0, .int .u8 0, .int .u8 0, .int .u8 0, .int .u8 0, .int .u8 0, .int .u8 0, .int .u8 0, .int .u8 0, .int .u8 0, .int .u8 0, .int .u8 0, .int .u8 0, .int .u8 0, .int .u8 0, .int .u8 0, .int .u32 0, .slice none 0 0, .slice none 0 0, .int .u32 0], 96⟩
theorem ty42 : tyOf Try.prog 42 = some y42 := by kernel_rfl
/-- []impl.TxIn -/
def y43 : Ty := ⟨.slc 42, 1, false, .slice none 0 0, 24⟩
theorem ty43 : tyOf Try.prog 43 = some y43 := by kernel_rfl
/-- impl.TxOut -/
def y45 : Ty := ⟨.stc [(0, 2), (1, 22)], 2, true, .agg #[.int .i64 0, .slice none 0 0], 32⟩
theorem ty45 : tyOf Try.prog 45 = some y45 := by kernel_rfl
/-- []impl.TxOut -/
def y46 : Ty := ⟨.slc 45, 1, false, .slice none 0 0, 24⟩
theorem ty46 : tyOf Try.prog 46 = some y46 := by kernel_rfl
/-- impl.Tx -/
def y48 : Ty := ⟨.stc [(0, 21), (1, 43), (2, 46), (3, 23)], 4, true, .agg #[.int .i32 0, .slice none 0 0, .slice none 0 0, .int .u32 0], 64⟩
theorem ty48 : tyOf Try.prog 48 = some y48 := by kernel_rfl

/-- function 5: pub-mintmark/laws.FnHeight -/
def tys5 : Nat → Option Ty := fun t => find [(22, y22), (5, y5), (3, y3), (21, y21), (38, y38), (36, y36), (23, y23), (42, y42), (40, y40), (43, y43), (45, y45), (2, y2), (46, y46), (48, y48), (4, y4)] t
theorem ok5 : TysOk Try.prog tys5 := tysOk_of ⟨ty22, ty5, ty3, ty21, ty38, ty36, ty23, ty42, ty40, ty43, ty45, ty2, ty46, ty48, ty4, trivial⟩
end Go.Proofs.Ytnlpjppjhikooaa.Tyhw
