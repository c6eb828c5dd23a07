/- The types that some functions name, as the evaluator wants them. Printed by a program of my own (seatgen.py). -/
import Derived.Test.YtfkdaelfehibcaaDoorSl
import Derived.Test.YtfkdaelfehibcaaDoorProg
import Derived.KernelRfl
namespace Go.Proofs.YtfkdaelfehibcaaDoor.Tybi
open Go Go.Se Go.Proofs

/-- int -/
def y3 : Ty := ⟨.int .i64, 1, false, .int .i64 0, 8⟩
theorem ty3 : tyOf Tryd.prog 3 = some y3 := by kernel_rfl
/-- bool -/
def y4 : Ty := ⟨.bool, 1, false, .bool false, 1⟩
theorem ty4 : tyOf Tryd.prog 4 = some y4 := by kernel_rfl
/-- uint8 -/
def y5 : Ty := ⟨.int .u8, 1, false, .int .u8 0, 1⟩
theorem ty5 : tyOf Tryd.prog 5 = some y5 := by kernel_rfl
/-- string -/
def y9 : Ty := ⟨.str, 1, false, .string ByteArray.empty, 16⟩
theorem ty9 : tyOf Tryd.prog 9 = some y9 := by kernel_rfl
/-- []uint8 -/
def y22 : Ty := ⟨.slc 5, 1, false, .slice none 0 0, 24⟩
theorem ty22 : tyOf Tryd.prog 22 = some y22 := by kernel_rfl
/-- uint32 -/
def y23 : Ty := ⟨.int .u32, 1, false, .int .u32 0, 4⟩
theorem ty23 : tyOf Tryd.prog 23 = some y23 := by kernel_rfl
/-- error -/
def y35 : Ty := ⟨.ifc, 1, false, .nilIface, 16⟩
theorem ty35 : tyOf Tryd.prog 35 = some y35 := by kernel_rfl

/-- function 3: pub-mintmark/laws.FnReadBech32Long -/
def tys3 : Nat → Option Ty := fun t => find [(9, y9), (3, y3), (23, y23), (4, y4)] t
theorem ok3 : TysOk Tryd.prog tys3 := tysOk_of ⟨ty9, ty3, ty23, ty4, trivial⟩

/-- function 5: pub-mintmark/impl.ReadBech32Long -/
def tys5 : Nat → Option Ty := fun t => find [(35, y35)] t
theorem ok5 : TysOk Tryd.prog tys5 := tysOk_of ⟨ty35, trivial⟩

/-- function 6: pub-mintmark/laws.same -/
def tys6 : Nat → Option Ty := fun t => find [(22, y22), (5, y5), (3, y3)] t
theorem ok6 : TysOk Tryd.prog tys6 := tysOk_of ⟨ty22, ty5, ty3, trivial⟩

/-- function 12: pub-mintmark/pub/btcdaddress/bech32.DecodeNoLimit -/
def tys12 : Nat → Option Ty := fun t => find [] t
theorem ok12 : TysOk Tryd.prog tys12 := tysOk_of trivial

/-- function 13: pub-mintmark/impl.copied -/
def tys13 : Nat → Option Ty := fun t => find [(22, y22), (5, y5)] t
theorem ok13 : TysOk Tryd.prog tys13 := tysOk_of ⟨ty22, ty5, trivial⟩
end Go.Proofs.YtfkdaelfehibcaaDoor.Tybi
