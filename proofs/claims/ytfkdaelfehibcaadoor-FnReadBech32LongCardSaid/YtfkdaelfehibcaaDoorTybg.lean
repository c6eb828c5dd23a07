/- The types that some functions name, as the evaluator wants them. Printed by a program of my own (seatgen.py). -/
import Derived.Test.YtfkdaelfehibcaaDoorSl
import Derived.Test.YtfkdaelfehibcaaDoorProg
import Derived.KernelRfl
namespace Go.Proofs.YtfkdaelfehibcaaDoor.Tybg
open Go Go.Se Go.Proofs

/-- int -/
def y3 : Ty := ⟨.int .i64, 1, false, .int .i64 0, 8⟩
theorem ty3 : tyOf Tryd.prog 3 = some y3 := by kernel_rfl
/-- uint8 -/
def y5 : Ty := ⟨.int .u8, 1, false, .int .u8 0, 1⟩
theorem ty5 : tyOf Tryd.prog 5 = some y5 := by kernel_rfl
/-- string -/
def y9 : Ty := ⟨.str, 1, false, .string ByteArray.empty, 16⟩
theorem ty9 : tyOf Tryd.prog 9 = some y9 := by kernel_rfl
/-- []uint8 -/
def y22 : Ty := ⟨.slc 5, 1, false, .slice none 0 0, 24⟩
theorem ty22 : tyOf Tryd.prog 22 = some y22 := by kernel_rfl
/-- uint -/
def y40 : Ty := ⟨.int .u64, 1, false, .int .u64 0, 8⟩
theorem ty40 : tyOf Tryd.prog 40 = some y40 := by kernel_rfl
/-- bech32.Version -/
def y41 : Ty := ⟨.int .u8, 1, false, .int .u8 0, 1⟩
theorem ty41 : tyOf Tryd.prog 41 = some y41 := by kernel_rfl
/-- bech32.ChecksumConst -/
def y64 : Ty := ⟨.int .i64, 1, false, .int .i64 0, 8⟩
theorem ty64 : tyOf Tryd.prog 64 = some y64 := by kernel_rfl

/-- function 18: pub-mintmark/pub/btcdaddress/bech32.bech32VerifyChecksum -/
def tys18 : Nat → Option Ty := fun t => find [(22, y22), (5, y5), (3, y3)] t
theorem ok18 : TysOk Tryd.prog tys18 := tysOk_of ⟨ty22, ty5, ty3, trivial⟩

/-- function 20: pub-mintmark/pub/btcdaddress/bech32.writeBech32Checksum -/
def tys20 : Nat → Option Ty := fun t => find [(3, y3), (40, y40), (5, y5), (9, y9)] t
theorem ok20 : TysOk Tryd.prog tys20 := tysOk_of ⟨ty3, ty40, ty5, ty9, trivial⟩

/-- function 25: pub-mintmark/pub/btcdaddress/bech32.ConstsToVersion -/
def tys25 : Nat → Option Ty := fun t => find [(64, y64)] t
theorem ok25 : TysOk Tryd.prog tys25 := tysOk_of ⟨ty64, trivial⟩

/-- function 28: pub-mintmark/pub/btcdaddress/bech32.VersionToConsts -/
def tys28 : Nat → Option Ty := fun t => find [(41, y41)] t
theorem ok28 : TysOk Tryd.prog tys28 := tysOk_of ⟨ty41, trivial⟩
end Go.Proofs.YtfkdaelfehibcaaDoor.Tybg
