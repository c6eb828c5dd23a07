/- The types that some functions name, as the evaluator wants them. Printed by a program of my own (seatgen.py). -/
import Derived.Test.YtfkdaelfehibcaaDoorSl
import Derived.Test.YtfkdaelfehibcaaDoorProg
import Derived.KernelRfl
namespace Go.Proofs.YtfkdaelfehibcaaDoor.Tyba
open Go Go.Se Go.Proofs

/-- int -/
def y3 : Ty := ⟨.int .i64, 1, false, .int .i64 0, 8⟩
theorem ty3 : tyOf Tryd.prog 3 = some y3 := by kernel_rfl
/-- uint8 -/
def y5 : Ty := ⟨.int .u8, 1, false, .int .u8 0, 1⟩
theorem ty5 : tyOf Tryd.prog 5 = some y5 := by kernel_rfl
/-- string -/
def y9 : Ty := ⟨.str, 1, false, .string ByteArray.empty, 16⟩
theorem ty9 : tyOf Tryd.prog 9 = some y9 := by kernel_rfl
/-- []uint8 -/
def y22 : Ty := ⟨.slc 5, 1, false, .slice none 0 0, 24⟩
theorem ty22 : tyOf Tryd.prog 22 = some y22 := by kernel_rfl

/-- function 7: pub-mintmark/spec.mixed -/
def tys7 : Nat → Option Ty := fun t => find [(9, y9), (3, y3), (5, y5)] t
theorem ok7 : TysOk Tryd.prog tys7 := tysOk_of ⟨ty9, ty3, ty5, trivial⟩

/-- function 8: pub-mintmark/spec.lower -/
def tys8 : Nat → Option Ty := fun t => find [(9, y9), (22, y22), (5, y5), (3, y3)] t
theorem ok8 : TysOk Tryd.prog tys8 := tysOk_of ⟨ty9, ty22, ty5, ty3, trivial⟩

/-- function 9: pub-mintmark/spec.place -/
def tys9 : Nat → Option Ty := fun t => find [(9, y9), (3, y3), (5, y5)] t
theorem ok9 : TysOk Tryd.prog tys9 := tysOk_of ⟨ty9, ty3, ty5, trivial⟩

/-- function 15: pub-mintmark/pub/btcdaddress/bech32.lower -/
def tys15 : Nat → Option Ty := fun t => find [(9, y9), (22, y22), (5, y5), (3, y3)] t
theorem ok15 : TysOk Tryd.prog tys15 := tysOk_of ⟨ty9, ty22, ty5, ty3, trivial⟩
end Go.Proofs.YtfkdaelfehibcaaDoor.Tyba
