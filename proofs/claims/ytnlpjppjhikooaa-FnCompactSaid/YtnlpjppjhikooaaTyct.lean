/- The types that some functions name, as the evaluator wants them. Printed by a program of my own (seatgen.py). -/
import Derived.Test.YtnlpjppjhikooaaSl
import Derived.Test.YtnlpjppjhikooaaProg
import Derived.KernelRfl
namespace Go.Proofs.Ytnlpjppjhikooaa.Tyct
open Go Go.Se Go.Proofs

/-- int64 -/
def y2 : Ty := ⟨.int .i64, 1, false, .int .i64 0, 8⟩
theorem ty2 : tyOf Try.prog 2 = some y2 := by kernel_rfl
/-- int -/
def y3 : Ty := ⟨.int .i64, 1, false, .int .i64 0, 8⟩
theorem ty3 : tyOf Try.prog 3 = some y3 := by kernel_rfl
/-- bool -/
def y4 : Ty := ⟨.bool, 1, false, .bool false, 1⟩
theorem ty4 : tyOf Try.prog 4 = some y4 := by kernel_rfl
/-- uint8 -/
def y5 : Ty := ⟨.int .u8, 1, false, .int .u8 0, 1⟩
theorem ty5 : tyOf Try.prog 5 = some y5 := by kernel_rfl
/-- []uint8 -/
def y22 : Ty := ⟨.slc 5, 1, false, .slice none 0 0, 24⟩
theorem ty22 : tyOf Try.prog 22 = some y22 := by kernel_rfl
/-- uint32 -/
def y23 : Ty := ⟨.int .u32, 1, false, .int .u32 0, 4⟩
theorem ty23 : tyOf Try.prog 23 = some y23 := by kernel_rfl
/-- uint -/
def y62 : Ty := ⟨.int .u64, 1, false, .int .u64 0, 8⟩
theorem ty62 : tyOf Try.prog 62 = some y62 := by kernel_rfl
/-- big.nat -/
def y89 : Ty := ⟨.slc 23, 1, false, .slice none 0 0, 24⟩
theorem ty89 : tyOf Try.prog 89 = some y89 := by kernel_rfl
/-- big.Int -/
def y91 : Ty := ⟨.stc [(0, 4), (1, 89)], 2, true, .agg #[.bool false, .slice none 0 0], 32⟩
theorem ty91 : tyOf Try.prog 91 = some y91 := by kernel_rfl
/-- uint64 -/
def y148 : Ty := ⟨.int .u64, 1, false, .int .u64 0, 8⟩
theorem ty148 : tyOf Try.prog 148 = some y148 := by kernel_rfl

/-- function 4: pub-mintmark/laws.FnCompact -/
def tys4 : Nat → Option Ty := fun t => find [(22, y22), (5, y5), (3, y3), (23, y23)] t
theorem ok4 : TysOk Try.prog tys4 := tysOk_of ⟨ty22, ty5, ty3, ty23, trivial⟩

/-- function 11: pub-mintmark/laws.great -/
def tys11 : Nat → Option Ty := fun t => find [(22, y22), (5, y5), (3, y3)] t
theorem ok11 : TysOk Try.prog tys11 := tysOk_of ⟨ty22, ty5, ty3, trivial⟩

/-- function 14: pub-mintmark/impl.Target -/
def tys14 : Nat → Option Ty := fun t => find [(3, y3)] t
theorem ok14 : TysOk Try.prog tys14 := tysOk_of ⟨ty3, trivial⟩

/-- function 25: pub-mintmark/pub/btcd/blockchain.CompactToBig -/
def tys25 : Nat → Option Ty := fun t => find [] t
theorem ok25 : TysOk Try.prog tys25 := tysOk_of trivial

/-- function 26: pub-mintmark/impl.copied -/
def tys26 : Nat → Option Ty := fun t => find [(22, y22), (5, y5)] t
theorem ok26 : TysOk Try.prog tys26 := tysOk_of ⟨ty22, ty5, trivial⟩

/-- function 28: (*pub-mintmark/pub/smallbig.Int).Sign -/
def tys28 : Nat → Option Ty := fun t => find [(91, y91), (4, y4), (89, y89), (23, y23), (3, y3)] t
theorem ok28 : TysOk Try.prog tys28 := tysOk_of ⟨ty91, ty4, ty89, ty23, ty3, trivial⟩

/-- function 40: pub-mintmark/pub/btcd/blockchain/inner/workmath.CompactToBig -/
def tys40 : Nat → Option Ty := fun t => find [(23, y23), (62, y62), (2, y2)] t
theorem ok40 : TysOk Try.prog tys40 := tysOk_of ⟨ty23, ty62, ty2, trivial⟩

/-- function 57: pub-mintmark/pub/smallbig.NewInt -/
def tys57 : Nat → Option Ty := fun t => find [(91, y91)] t
theorem ok57 : TysOk Try.prog tys57 := tysOk_of ⟨ty91, trivial⟩

/-- function 58: (*pub-mintmark/pub/smallbig.Int).Lsh -/
def tys58 : Nat → Option Ty := fun t => find [(91, y91), (4, y4), (89, y89), (23, y23)] t
theorem ok58 : TysOk Try.prog tys58 := tysOk_of ⟨ty91, ty4, ty89, ty23, trivial⟩

/-- function 81: (*pub-mintmark/pub/smallbig.Int).SetInt64 -/
def tys81 : Nat → Option Ty := fun t => find [(2, y2), (148, y148), (91, y91), (4, y4), (89, y89), (23, y23)] t
theorem ok81 : TysOk Try.prog tys81 := tysOk_of ⟨ty2, ty148, ty91, ty4, ty89, ty23, trivial⟩
end Go.Proofs.Ytnlpjppjhikooaa.Tyct
