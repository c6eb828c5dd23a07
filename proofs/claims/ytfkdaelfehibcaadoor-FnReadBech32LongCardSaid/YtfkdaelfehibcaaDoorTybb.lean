/- The types that some functions name, as the evaluator wants them. Printed by a program of my own (seatgen.py). -/
import Derived.Test.YtfkdaelfehibcaaDoorSl
import Derived.Test.YtfkdaelfehibcaaDoorProg
import Derived.KernelRfl
namespace Go.Proofs.YtfkdaelfehibcaaDoor.Tybb
open Go Go.Se Go.Proofs

/-- int -/
def y3 : Ty := ⟨.int .i64, 1, false, .int .i64 0, 8⟩
theorem ty3 : tyOf Tryd.prog 3 = some y3 := by kernel_rfl
/-- uint8 -/
def y5 : Ty := ⟨.int .u8, 1, false, .int .u8 0, 1⟩
theorem ty5 : tyOf Tryd.prog 5 = some y5 := by kernel_rfl
/-- string -/
def y9 : Ty := ⟨.str, 1, false, .string ByteArray.empty, 16⟩
theorem ty9 : tyOf Tryd.prog 9 = some y9 := by kernel_rfl
/-- []uint8 -/
def y22 : Ty := ⟨.slc 5, 1, false, .slice none 0 0, 24⟩
theorem ty22 : tyOf Tryd.prog 22 = some y22 := by kernel_rfl
/-- bech32.ErrNonCharsetChar -/
def y61 : Ty := ⟨.int .i32, 1, false, .int .i32 0, 4⟩
theorem ty61 : tyOf Tryd.prog 61 = some y61 := by kernel_rfl

/-- function 16: strings.LastIndexByte -/
def tys16 : Nat → Option Ty := fun t => find [] t
theorem ok16 : TysOk Tryd.prog tys16 := tysOk_of trivial

/-- function 17: pub-mintmark/pub/btcdaddress/bech32.toBytes -/
def tys17 : Nat → Option Ty := fun t => find [(9, y9), (22, y22), (5, y5), (3, y3), (61, y61)] t
theorem ok17 : TysOk Tryd.prog tys17 := tysOk_of ⟨ty9, ty22, ty5, ty3, ty61, trivial⟩

/-- function 22: internal/bytealg.LastIndexByteString -/
def tys22 : Nat → Option Ty := fun t => find [(9, y9), (3, y3), (5, y5)] t
theorem ok22 : TysOk Tryd.prog tys22 := tysOk_of ⟨ty9, ty3, ty5, trivial⟩

/-- function 23: strings.IndexByte -/
def tys23 : Nat → Option Ty := fun t => find [] t
theorem ok23 : TysOk Tryd.prog tys23 := tysOk_of trivial

/-- function 30: internal/stringslite.IndexByte -/
def tys30 : Nat → Option Ty := fun t => find [] t
theorem ok30 : TysOk Tryd.prog tys30 := tysOk_of trivial
end Go.Proofs.YtfkdaelfehibcaaDoor.Tybb
