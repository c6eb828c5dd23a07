/- The types that some functions name, as the evaluator wants them. Printed by a program of my own (seatgen.py). -/
import Derived.Test.YtnlpjppjhikooaaSl
import Derived.Test.YtnlpjppjhikooaaProg
import Derived.KernelRfl
namespace Go.Proofs.Ytnlpjppjhikooaa.Tyhu
open Go Go.Se Go.Proofs

/-- int64 -/
def y2 : Ty := ⟨.int .i64, 1, false, .int .i64 0, 8⟩
theorem ty2 : tyOf Try.prog 2 = some y2 := by kernel_rfl
/-- int -/
def y3 : Ty := ⟨.int .i64, 1, false, .int .i64 0, 8⟩
theorem ty3 : tyOf Try.prog 3 = some y3 := by kernel_rfl
/-- uint8 -/
def y5 : Ty := ⟨.int .u8, 1, false, .int .u8 0, 1⟩
theorem ty5 : tyOf Try.prog 5 = some y5 := by kernel_rfl
/-- string -/
def y9 : Ty := ⟨.str, 1, false, .string ByteArray.empty, 16⟩
theorem ty9 : tyOf Try.prog 9 = some y9 := by kernel_rfl
/-- int32 -/
def y21 : Ty := ⟨.int .i32, 1, false, .int .i32 0, 4⟩
theorem ty21 : tyOf Try.prog 21 = some y21 := by kernel_rfl
/-- []uint8 -/
def y22 : Ty := ⟨.slc 5, 1, false, .slice none 0 0, 24⟩
theorem ty22 : tyOf Try.prog 22 = some y22 := by kernel_rfl
/-- uint32 -/
def y23 : Ty := ⟨.int .u32, 1, false, .int .u32 0, 4⟩
theorem ty23 : tyOf Try.prog 23 = some y23 := by kernel_rfl
/-- error -/
def y67 : Ty := ⟨.ifc, 1, false, .nilIface, 16⟩
theorem ty67 : tyOf Try.prog 67 = some y67 := by kernel_rfl
/-- blockchain.RuleError -/
def y107 : Ty := ⟨.stc [(0, 105), (1, 9)], 2, true, .agg #[.int .i64 0, .string ByteArray.empty], 24⟩
theorem ty107 : tyOf Try.prog 107 = some y107 := by kernel_rfl
/-- binary.littleEndian -/
def y110 : Ty := ⟨.stc [], 0, true, .agg #[], 0⟩
theorem ty110 : tyOf Try.prog 110 = some y110 := by kernel_rfl
/-- txscript.ScriptBuilderOpt -/
def y131 : Ty := ⟨.other, 1, false, .nilFunc, 8⟩
theorem ty131 : tyOf Try.prog 131 = some y131 := by kernel_rfl
/-- []txscript.ScriptBuilderOpt -/
def y153 : Ty := ⟨.slc 131, 1, false, .slice none 0 0, 24⟩
theorem ty153 : tyOf Try.prog 153 = some y153 := by kernel_rfl
/-- txscript.scriptBuilderConfig -/
def y157 : Ty := ⟨.stc [(0, 3)], 1, true, .agg #[.int .i64 0], 8⟩
theorem ty157 : tyOf Try.prog 157 = some y157 := by kernel_rfl
/-- txscript.ScriptBuilder -/
def y159 : Ty := ⟨.stc [(0, 22), (1, 67)], 2, true, .agg #[.slice none 0 0, .nilIface], 40⟩
theorem ty159 : tyOf Try.prog 159 = some y159 := by kernel_rfl
/-- txscript.ErrScriptNotCanonical -/
def y160 : Ty := ⟨.str, 1, false, .string ByteArray.empty, 16⟩
theorem ty160 : tyOf Try.prog 160 = some y160 := by kernel_rfl
/-- uint16 -/
def y170 : Ty := ⟨.int .u16, 1, false, .int .u16 0, 2⟩
theorem ty170 : tyOf Try.prog 170 = some y170 := by kernel_rfl

/-- function 46: pub-mintmark/pub/btcd/blockchain.compareScript -/
def tys46 : Nat → Option Ty := fun t => find [(153, y153), (131, y131), (21, y21), (2, y2), (67, y67), (107, y107)] t
theorem ok46 : TysOk Try.prog tys46 := tysOk_of ⟨ty153, ty131, ty21, ty2, ty67, ty107, trivial⟩

/-- function 60: pub-mintmark/pub/btcdtxscript.NewScriptBuilder -/
def tys60 : Nat → Option Ty := fun t => find [(153, y153), (131, y131), (3, y3), (157, y157), (22, y22), (5, y5), (159, y159), (67, y67)] t
theorem ok60 : TysOk Try.prog tys60 := tysOk_of ⟨ty153, ty131, ty3, ty157, ty22, ty5, ty159, ty67, trivial⟩

/-- function 61: pub-mintmark/pub/btcdtxscript.WithScriptAllocSize -/
def tys61 : Nat → Option Ty := fun t => find [(3, y3)] t
theorem ok61 : TysOk Try.prog tys61 := tysOk_of ⟨ty3, trivial⟩

/-- function 62: (*pub-mintmark/pub/btcdtxscript.ScriptBuilder).AddInt64 -/
def tys62 : Nat → Option Ty := fun t => find [(159, y159), (22, y22), (5, y5), (67, y67), (3, y3), (160, y160), (2, y2)] t
theorem ok62 : TysOk Try.prog tys62 := tysOk_of ⟨ty159, ty22, ty5, ty67, ty3, ty160, ty2, trivial⟩

/-- function 63: (*pub-mintmark/pub/btcdtxscript.ScriptBuilder).Script -/
def tys63 : Nat → Option Ty := fun t => find [(159, y159), (22, y22), (5, y5), (67, y67)] t
theorem ok63 : TysOk Try.prog tys63 := tysOk_of ⟨ty159, ty22, ty5, ty67, trivial⟩

/-- function 64: bytes.HasPrefix -/
def tys64 : Nat → Option Ty := fun t => find [(22, y22), (5, y5), (3, y3)] t
theorem ok64 : TysOk Try.prog tys64 := tysOk_of ⟨ty22, ty5, ty3, trivial⟩

/-- function 83: pub-mintmark/pub/btcdtxscript.defaultScriptBuilderConfig -/
def tys83 : Nat → Option Ty := fun t => find [(157, y157), (3, y3)] t
theorem ok83 : TysOk Try.prog tys83 := tysOk_of ⟨ty157, ty3, trivial⟩

/-- function 84: pub-mintmark/pub/btcdtxscript.WithScriptAllocSize$1 -/
def tys84 : Nat → Option Ty := fun t => find [(3, y3), (157, y157)] t
theorem ok84 : TysOk Try.prog tys84 := tysOk_of ⟨ty3, ty157, trivial⟩

/-- function 85: (*pub-mintmark/pub/btcdtxscript.ScriptBuilder).AddData -/
def tys85 : Nat → Option Ty := fun t => find [(159, y159), (22, y22), (5, y5), (67, y67), (3, y3), (160, y160)] t
theorem ok85 : TysOk Try.prog tys85 := tysOk_of ⟨ty159, ty22, ty5, ty67, ty3, ty160, trivial⟩

/-- function 87: bytes.Equal -/
def tys87 : Nat → Option Ty := fun t => find [(22, y22), (5, y5), (9, y9)] t
theorem ok87 : TysOk Try.prog tys87 := tysOk_of ⟨ty22, ty5, ty9, trivial⟩

/-- function 95: pub-mintmark/pub/btcdtxscript.canonicalDataSize -/
def tys95 : Nat → Option Ty := fun t => find [(22, y22), (5, y5), (3, y3)] t
theorem ok95 : TysOk Try.prog tys95 := tysOk_of ⟨ty22, ty5, ty3, trivial⟩

/-- function 96: (*pub-mintmark/pub/btcdtxscript.ScriptBuilder).addData -/
def tys96 : Nat → Option Ty := fun t => find [(22, y22), (5, y5), (3, y3), (159, y159), (67, y67), (110, y110), (170, y170), (23, y23)] t
theorem ok96 : TysOk Try.prog tys96 := tysOk_of ⟨ty22, ty5, ty3, ty159, ty67, ty110, ty170, ty23, trivial⟩
end Go.Proofs.Ytnlpjppjhikooaa.Tyhu
