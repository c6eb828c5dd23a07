/- The types that some functions name, as the evaluator wants them. Printed by a program of my own (seatgen.py). -/
import Derived.Test.YtnlpjppjhikooaaSl
import Derived.Test.YtnlpjppjhikooaaProg
import Derived.KernelRfl
namespace Go.Proofs.Ytnlpjppjhikooaa.Tycr
open Go Go.Se Go.Proofs

/-- int -/
def y3 : Ty := ⟨.int .i64, 1, false, .int .i64 0, 8⟩
theorem ty3 : tyOf Try.prog 3 = some y3 := by kernel_rfl
/-- bool -/
def y4 : Ty := ⟨.bool, 1, false, .bool false, 1⟩
theorem ty4 : tyOf Try.prog 4 = some y4 := by kernel_rfl
/-- uint8 -/
def y5 : Ty := ⟨.int .u8, 1, false, .int .u8 0, 1⟩
theorem ty5 : tyOf Try.prog 5 = some y5 := by kernel_rfl
/-- []uint8 -/
def y22 : Ty := ⟨.slc 5, 1, false, .slice none 0 0, 24⟩
theorem ty22 : tyOf Try.prog 22 = some y22 := by kernel_rfl
/-- uint32 -/
def y23 : Ty := ⟨.int .u32, 1, false, .int .u32 0, 4⟩
theorem ty23 : tyOf Try.prog 23 = some y23 := by kernel_rfl
/-- uint -/
def y62 : Ty := ⟨.int .u64, 1, false, .int .u64 0, 8⟩
theorem ty62 : tyOf Try.prog 62 = some y62 := by kernel_rfl
/-- big.nat -/
def y89 : Ty := ⟨.slc 23, 1, false, .slice none 0 0, 24⟩
theorem ty89 : tyOf Try.prog 89 = some y89 := by kernel_rfl
/-- big.Int -/
def y91 : Ty := ⟨.stc [(0, 4), (1, 89)], 2, true, .agg #[.bool false, .slice none 0 0], 32⟩
theorem ty91 : tyOf Try.prog 91 = some y91 := by kernel_rfl
/-- big.Word -/
def y117 : Ty := ⟨.int .u64, 1, false, .int .u64 0, 8⟩
theorem ty117 : tyOf Try.prog 117 = some y117 := by kernel_rfl
/-- []big.Word -/
def y118 : Ty := ⟨.slc 117, 1, false, .slice none 0 0, 24⟩
theorem ty118 : tyOf Try.prog 118 = some y118 := by kernel_rfl

/-- function 12: pub-mintmark/impl.Compact -/
def tys12 : Nat → Option Ty := fun t => find [] t
theorem ok12 : TysOk Try.prog tys12 := tysOk_of trivial

/-- function 22: pub-mintmark/pub/btcd/blockchain.BigToCompact -/
def tys22 : Nat → Option Ty := fun t => find [] t
theorem ok22 : TysOk Try.prog tys22 := tysOk_of trivial

/-- function 23: pub-mintmark/impl.number -/
def tys23 : Nat → Option Ty := fun t => find [(91, y91)] t
theorem ok23 : TysOk Try.prog tys23 := tysOk_of ⟨ty91, trivial⟩

/-- function 28: (*pub-mintmark/pub/smallbig.Int).Sign -/
def tys28 : Nat → Option Ty := fun t => find [(91, y91), (4, y4), (89, y89), (23, y23), (3, y3)] t
theorem ok28 : TysOk Try.prog tys28 := tysOk_of ⟨ty91, ty4, ty89, ty23, ty3, trivial⟩

/-- function 38: pub-mintmark/pub/btcd/blockchain/inner/workmath.BigToCompact -/
def tys38 : Nat → Option Ty := fun t => find [(3, y3), (22, y22), (5, y5), (62, y62), (118, y118), (117, y117), (23, y23), (91, y91)] t
theorem ok38 : TysOk Try.prog tys38 := tysOk_of ⟨ty3, ty22, ty5, ty62, ty118, ty117, ty23, ty91, trivial⟩

/-- function 54: (*pub-mintmark/pub/smallbig.Int).Set -/
def tys54 : Nat → Option Ty := fun t => find [(91, y91), (4, y4), (89, y89), (23, y23)] t
theorem ok54 : TysOk Try.prog tys54 := tysOk_of ⟨ty91, ty4, ty89, ty23, trivial⟩

/-- function 55: (*pub-mintmark/pub/smallbig.Int).Rsh -/
def tys55 : Nat → Option Ty := fun t => find [(91, y91), (4, y4), (89, y89), (23, y23)] t
theorem ok55 : TysOk Try.prog tys55 := tysOk_of ⟨ty91, ty4, ty89, ty23, trivial⟩
end Go.Proofs.Ytnlpjppjhikooaa.Tycr
