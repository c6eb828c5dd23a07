/- The types that some functions name, as the evaluator wants them. Printed by a program of my own (seatgen.py). -/
import Derived.Test.YtclkimgpdnldnaaSl
import Derived.Test.YtclkimgpdnldnaaProg
import Derived.KernelRfl
namespace Go.Proofs.Ytclkimgpdnldnaa.Adr
open Go Go.Se Go.Proofs

/-- int -/
def y3 : Ty := ⟨.int .i64, 1, false, .int .i64 0, 8⟩
theorem ty3 : tyOf Try.prog 3 = some y3 := by kernel_rfl
/-- uint8 -/
def y5 : Ty := ⟨.int .u8, 1, false, .int .u8 0, 1⟩
theorem ty5 : tyOf Try.prog 5 = some y5 := by kernel_rfl
/-- []uint8 -/
def y36 : Ty := ⟨.slc 5, 1, false, .slice none 0 0, 24⟩
theorem ty36 : tyOf Try.prog 36 = some y36 := by kernel_rfl
/-- error -/
def y102 : Ty := ⟨.ifc, 1, false, .nilIface, 16⟩
theorem ty102 : tyOf Try.prog 102 = some y102 := by kernel_rfl
/-- bech32.ErrInvalidBitGroups -/
def y153 : Ty := ⟨.stc [], 0, true, .agg #[], 0⟩
theorem ty153 : tyOf Try.prog 153 = some y153 := by kernel_rfl
/-- bech32.ErrInvalidIncompleteGroup -/
def y154 : Ty := ⟨.stc [], 0, true, .agg #[], 0⟩
theorem ty154 : tyOf Try.prog 154 = some y154 := by kernel_rfl

/-- function 7: pub-mintmark/laws.FnRegroupBack -/
def tys7 : Nat → Option Ty := fun t => find [(36, y36), (5, y5), (3, y3)] t
theorem ok7 : TysOk Try.prog tys7 := tysOk_of ⟨ty36, ty5, ty3, trivial⟩

/-- function 22: pub-mintmark/impl.Regroup -/
def tys22 : Nat → Option Ty := fun t => find [(102, y102)] t
theorem ok22 : TysOk Try.prog tys22 := tysOk_of ⟨ty102, trivial⟩

/-- function 23: pub-mintmark/laws.same -/
def tys23 : Nat → Option Ty := fun t => find [(36, y36), (5, y5), (3, y3)] t
theorem ok23 : TysOk Try.prog tys23 := tysOk_of ⟨ty36, ty5, ty3, trivial⟩

/-- function 56: pub-mintmark/pub/btcdaddress/bech32.ConvertBits -/
def tys56 : Nat → Option Ty := fun t => find [(5, y5), (153, y153), (36, y36), (3, y3), (154, y154)] t
theorem ok56 : TysOk Try.prog tys56 := tysOk_of ⟨ty5, ty153, ty36, ty3, ty154, trivial⟩

/-- function 57: pub-mintmark/impl.copied -/
def tys57 : Nat → Option Ty := fun t => find [(36, y36), (5, y5)] t
theorem ok57 : TysOk Try.prog tys57 := tysOk_of ⟨ty36, ty5, trivial⟩
end Go.Proofs.Ytclkimgpdnldnaa.Adr
