/- The types that some functions name, as the evaluator wants them. Printed by a program of my own (seatgen.py). -/
import Derived.Test.YtclkimgpdnldnaaSl
import Derived.Test.YtclkimgpdnldnaaProg
import Derived.KernelRfl
namespace Go.Proofs.Ytclkimgpdnldnaa.Sub
open Go Go.Se Go.Proofs

/-- int64 -/
def y2 : Ty := ⟨.int .i64, 1, false, .int .i64 0⟩
theorem ty2 : tyOf Try.prog 2 = some y2 := by kernel_rfl
/-- bool -/
def y4 : Ty := ⟨.bool, 1, false, .bool false⟩
theorem ty4 : tyOf Try.prog 4 = some y4 := by kernel_rfl
/-- uint8 -/
def y5 : Ty := ⟨.int .u8, 1, false, .int .u8 0⟩
theorem ty5 : tyOf Try.prog 5 = some y5 := by kernel_rfl
/-- string -/
def y9 : Ty := ⟨.str, 1, false, .string ByteArray.empty⟩
theorem ty9 : tyOf Try.prog 9 = some y9 := by kernel_rfl
/-- int32 -/
def y21 : Ty := ⟨.int .i32, 1, false, .int .i32 0⟩
theorem ty21 : tyOf Try.prog 21 = some y21 := by kernel_rfl
/-- uint32 -/
def y30 : Ty := ⟨.int .u32, 1, false, .int .u32 0⟩
theorem ty30 : tyOf Try.prog 30 = some y30 := by kernel_rfl
/-- wire.BitcoinNet -/
def y70 : Ty := ⟨.int .u32, 1, false, .int .u32 0⟩
theorem ty70 : tyOf Try.prog 70 = some y70 := by kernel_rfl
/-- []chaincfg.DNSSeed -/
def y71 : Ty := ⟨.slc 243, 1, false, .slice none 0 0⟩
theorem ty71 : tyOf Try.prog 71 = some y71 := by kernel_rfl
/-- *wire.MsgBlock -/
def y72 : Ty := ⟨.ptr, 1, false, .pointer none⟩
theorem ty72 : tyOf Try.prog 72 = some y72 := by kernel_rfl
/-- *chainhash.Hash -/
def y73 : Ty := ⟨.ptr, 1, false, .pointer none⟩
theorem ty73 : tyOf Try.prog 73 = some y73 := by kernel_rfl
/-- *big.Int -/
def y74 : Ty := ⟨.ptr, 1, false, .pointer none⟩
theorem ty74 : tyOf Try.prog 74 = some y74 := by kernel_rfl
/-- uint16 -/
def y75 : Ty := ⟨.int .u16, 1, false, .int .u16 0⟩
theorem ty75 : tyOf Try.prog 75 = some y75 := by kernel_rfl
/-- time.Duration -/
def y76 : Ty := ⟨.int .i64, 1, false, .int .i64 0⟩
theorem ty76 : tyOf Try.prog 76 = some y76 := by kernel_rfl
/-- []chaincfg.Checkpoint -/
def y77 : Ty := ⟨.slc 249, 1, false, .slice none 0 0⟩
theorem ty77 : tyOf Try.prog 77 = some y77 := by kernel_rfl
/-- [4]uint8 -/
def y78 : Ty := ⟨.arr 4 5, 4, true, .agg #[.int .u8 0, .int .u8 0, .int .u8 0, .int .u8 0]⟩
theorem ty78 : tyOf Try.prog 78 = some y78 := by kernel_rfl
/-- chaincfg.Params -/
def y80 : Ty := ⟨.stc [(0, 9), (1, 70), (2, 9), (3, 71), (4, 72), (5, 73), (6, 74), (7, 30), (8, 4), (9, 4), (10, 21), (11, 73), (12, 21), (13, 21), (14, 75), (15, 21), (16, 76), (17, 76), (18, 2), (19, 4), (20, 76), (21, 4), (22, 77), (23, 30), (24, 30), (25, 4), (26, 9), (27, 5), (28, 5), (29, 5), (30, 5), (31, 5), (32, 78), (36, 78), (40, 30)], 41, true, .agg #[.string ByteArray.empty, .int .u32 0, .string ByteArray.empty, .slice none 0 0, .pointer none, .pointer none, .pointer none, .int .u32 0, .bool false, .bool false, .int .i32 0, .pointer none, .int .i32 0, .int .i32 0, .int .u16 0, .int .i32 0, .int .i64 0, .int .i64 0, .int .i64 0, .bool false, .int .i64 0, .bool false, .slice none 0 0, .int .u32 0, .int .u32 0, .bool false, .string ByteArray.empty, .int .u8 0, .int .u8 0, .int .u8 0, .int .u8 0, .int .u8 0, .int .u8 0, .int .u8 0, .int .u8 0, .int .u8 0, .int .u8 0, .int .u8 0, .int .u8 0, .int .u8 0, .int .u32 0]⟩
theorem ty80 : tyOf Try.prog 80 = some y80 := by kernel_rfl
/-- uint -/
def y99 : Ty := ⟨.int .u64, 1, false, .int .u64 0⟩
theorem ty99 : tyOf Try.prog 99 = some y99 := by kernel_rfl
/-- chaincfg.DNSSeed -/
def y243 : Ty := ⟨.stc [(0, 9), (1, 4)], 2, true, .agg #[.string ByteArray.empty, .bool false]⟩
theorem ty243 : tyOf Try.prog 243 = some y243 := by kernel_rfl
/-- chaincfg.Checkpoint -/
def y249 : Ty := ⟨.stc [(0, 21), (1, 73)], 2, true, .agg #[.int .i32 0, .pointer none]⟩
theorem ty249 : tyOf Try.prog 249 = some y249 := by kernel_rfl

/-- function 44: pub-mintmark/pub/btcd/blockchain.CalcBlockSubsidy -/
def tys44 : Nat → Option Ty := fun t => find [(80, y80), (9, y9), (70, y70), (71, y71), (243, y243), (72, y72), (73, y73), (74, y74), (30, y30), (4, y4), (21, y21), (75, y75), (76, y76), (2, y2), (77, y77), (249, y249), (5, y5), (78, y78), (99, y99)] t
theorem ok44 : TysOk Try.prog tys44 := tysOk_of ⟨ty80, ty9, ty70, ty71, ty243, ty72, ty73, ty74, ty30, ty4, ty21, ty75, ty76, ty2, ty77, ty249, ty5, ty78, ty99, trivial⟩

/-- function 13: pub-mintmark/impl.Subsidy -/
def tys13 : Nat → Option Ty := fun t => find [(80, y80), (9, y9), (70, y70), (71, y71), (243, y243), (72, y72), (73, y73), (74, y74), (30, y30), (4, y4), (21, y21), (75, y75), (76, y76), (2, y2), (77, y77), (249, y249), (5, y5), (78, y78)] t
theorem ok13 : TysOk Try.prog tys13 := tysOk_of ⟨ty80, ty9, ty70, ty71, ty243, ty72, ty73, ty74, ty30, ty4, ty21, ty75, ty76, ty2, ty77, ty249, ty5, ty78, trivial⟩

/-- function 3: pub-mintmark/laws.FnSubsidyHalves -/
def tys3 : Nat → Option Ty := fun t => find [(21, y21), (2, y2)] t
theorem ok3 : TysOk Try.prog tys3 := tysOk_of ⟨ty21, ty2, trivial⟩
end Go.Proofs.Ytclkimgpdnldnaa.Sub
