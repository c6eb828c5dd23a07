/- The types that some functions name, as the evaluator wants them. Printed by a program of my own (seatgen.py). -/
import Derived.Test.YtnlpjppjhikooaaSl
import Derived.Test.YtnlpjppjhikooaaProg
import Derived.KernelRfl
namespace Go.Proofs.Ytnlpjppjhikooaa.Tycq
open Go Go.Se Go.Proofs

/-- int -/
def y3 : Ty := ⟨.int .i64, 1, false, .int .i64 0, 8⟩
theorem ty3 : tyOf Try.prog 3 = some y3 := by kernel_rfl
/-- bool -/
def y4 : Ty := ⟨.bool, 1, false, .bool false, 1⟩
theorem ty4 : tyOf Try.prog 4 = some y4 := by kernel_rfl
/-- uint8 -/
def y5 : Ty := ⟨.int .u8, 1, false, .int .u8 0, 1⟩
theorem ty5 : tyOf Try.prog 5 = some y5 := by kernel_rfl
/-- string -/
def y9 : Ty := ⟨.str, 1, false, .string ByteArray.empty, 16⟩
theorem ty9 : tyOf Try.prog 9 = some y9 := by kernel_rfl
/-- []uint8 -/
def y22 : Ty := ⟨.slc 5, 1, false, .slice none 0 0, 24⟩
theorem ty22 : tyOf Try.prog 22 = some y22 := by kernel_rfl
/-- uint32 -/
def y23 : Ty := ⟨.int .u32, 1, false, .int .u32 0, 4⟩
theorem ty23 : tyOf Try.prog 23 = some y23 := by kernel_rfl
/-- big.nat -/
def y89 : Ty := ⟨.slc 23, 1, false, .slice none 0 0, 24⟩
theorem ty89 : tyOf Try.prog 89 = some y89 := by kernel_rfl
/-- big.Int -/
def y91 : Ty := ⟨.stc [(0, 4), (1, 89)], 2, true, .agg #[.bool false, .slice none 0 0], 32⟩
theorem ty91 : tyOf Try.prog 91 = some y91 := by kernel_rfl
/-- big.Word -/
def y117 : Ty := ⟨.int .u64, 1, false, .int .u64 0, 8⟩
theorem ty117 : tyOf Try.prog 117 = some y117 := by kernel_rfl
/-- []big.Word -/
def y118 : Ty := ⟨.slc 117, 1, false, .slice none 0 0, 24⟩
theorem ty118 : tyOf Try.prog 118 = some y118 := by kernel_rfl

/-- function 27: (*pub-mintmark/pub/smallbig.Int).Bytes -/
def tys27 : Nat → Option Ty := fun t => find [(91, y91), (4, y4), (89, y89), (23, y23), (3, y3), (22, y22), (5, y5)] t
theorem ok27 : TysOk Try.prog tys27 := tysOk_of ⟨ty91, ty4, ty89, ty23, ty3, ty22, ty5, trivial⟩

/-- function 39: (*pub-mintmark/pub/smallbig.Int).SetBytes -/
def tys39 : Nat → Option Ty := fun t => find [(22, y22), (5, y5), (3, y3), (89, y89), (23, y23), (91, y91), (4, y4)] t
theorem ok39 : TysOk Try.prog tys39 := tysOk_of ⟨ty22, ty5, ty3, ty89, ty23, ty91, ty4, trivial⟩

/-- function 41: (*pub-mintmark/pub/smallbig.Int).FillBytes -/
def tys41 : Nat → Option Ty := fun t => find [(22, y22), (5, y5), (91, y91), (4, y4), (89, y89), (23, y23), (3, y3), (9, y9)] t
theorem ok41 : TysOk Try.prog tys41 := tysOk_of ⟨ty22, ty5, ty91, ty4, ty89, ty23, ty3, ty9, trivial⟩

/-- function 53: (*pub-mintmark/pub/smallbig.Int).Bits -/
def tys53 : Nat → Option Ty := fun t => find [(91, y91), (4, y4), (89, y89), (23, y23), (3, y3), (118, y118), (117, y117)] t
theorem ok53 : TysOk Try.prog tys53 := tysOk_of ⟨ty91, ty4, ty89, ty23, ty3, ty118, ty117, trivial⟩
end Go.Proofs.Ytnlpjppjhikooaa.Tycq
