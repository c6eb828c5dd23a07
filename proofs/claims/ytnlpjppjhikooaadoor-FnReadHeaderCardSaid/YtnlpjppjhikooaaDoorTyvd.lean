/- The types that some functions name, as the evaluator wants them. Printed by a program of my own (seatgen.py). -/
import Derived.Test.YtnlpjppjhikooaaDoorSl
import Derived.Test.YtnlpjppjhikooaaDoorProg
import Derived.KernelRfl
namespace Go.Proofs.YtnlpjppjhikooaaDoor.Tyvd
open Go Go.Se Go.Proofs

/-- int64 -/
def y2 : Ty := ⟨.int .i64, 1, false, .int .i64 0, 8⟩
theorem ty2 : tyOf Tryd.prog 2 = some y2 := by kernel_rfl
/-- int -/
def y3 : Ty := ⟨.int .i64, 1, false, .int .i64 0, 8⟩
theorem ty3 : tyOf Tryd.prog 3 = some y3 := by kernel_rfl
/-- uint8 -/
def y5 : Ty := ⟨.int .u8, 1, false, .int .u8 0, 1⟩
theorem ty5 : tyOf Tryd.prog 5 = some y5 := by kernel_rfl
/-- string -/
def y9 : Ty := ⟨.str, 1, false, .string ByteArray.empty, 16⟩
theorem ty9 : tyOf Tryd.prog 9 = some y9 := by kernel_rfl
/-- []uint8 -/
def y22 : Ty := ⟨.slc 5, 1, false, .slice none 0 0, 24⟩
theorem ty22 : tyOf Tryd.prog 22 = some y22 := by kernel_rfl
/-- uint32 -/
def y23 : Ty := ⟨.int .u32, 1, false, .int .u32 0, 4⟩
theorem ty23 : tyOf Tryd.prog 23 = some y23 := by kernel_rfl
/-- uint64 -/
def y33 : Ty := ⟨.int .u64, 1, false, .int .u64 0, 8⟩
theorem ty33 : tyOf Tryd.prog 33 = some y33 := by kernel_rfl
/-- error -/
def y58 : Ty := ⟨.ifc, 1, false, .nilIface, 16⟩
theorem ty58 : tyOf Tryd.prog 58 = some y58 := by kernel_rfl
/-- bytes.Reader -/
def y127 : Ty := ⟨.stc [(0, 22), (1, 2), (2, 3)], 3, true, .agg #[.slice none 0 0, .int .i64 0, .int .i64 0], 40⟩
theorem ty127 : tyOf Tryd.prog 127 = some y127 := by kernel_rfl
/-- binary.littleEndian -/
def y159 : Ty := ⟨.stc [], 0, true, .agg #[], 0⟩
theorem ty159 : tyOf Tryd.prog 159 = some y159 := by kernel_rfl
/-- uint16 -/
def y161 : Ty := ⟨.int .u16, 1, false, .int .u16 0, 2⟩
theorem ty161 : tyOf Tryd.prog 161 = some y161 := by kernel_rfl
/-- *wire.MessageError -/
def y166 : Ty := ⟨.ptr, 1, false, .pointer none, 8⟩
theorem ty166 : tyOf Tryd.prog 166 = some y166 := by kernel_rfl
/-- wire.MessageError -/
def y185 : Ty := ⟨.stc [(0, 9), (1, 9)], 2, true, .agg #[.string ByteArray.empty, .string ByteArray.empty], 32⟩
theorem ty185 : tyOf Tryd.prog 185 = some y185 := by kernel_rfl

/-- function 69: pub-mintmark/pub/btcdwire.ReadVarIntBuf -/
def tys69 : Nat → Option Ty := fun t => find [(22, y22), (5, y5), (58, y58), (159, y159), (33, y33), (166, y166), (23, y23), (161, y161)] t
theorem ok69 : TysOk Tryd.prog tys69 := tysOk_of ⟨ty22, ty5, ty58, ty159, ty33, ty166, ty23, ty161, trivial⟩

/-- function 102: io.ReadFull -/
def tys102 : Nat → Option Ty := fun t => find [(22, y22), (5, y5)] t
theorem ok102 : TysOk Tryd.prog tys102 := tysOk_of ⟨ty22, ty5, trivial⟩

/-- function 103: (encoding/binary.littleEndian).Uint64 -/
def tys103 : Nat → Option Ty := fun t => find [(159, y159), (22, y22), (5, y5), (33, y33)] t
theorem ok103 : TysOk Tryd.prog tys103 := tysOk_of ⟨ty159, ty22, ty5, ty33, trivial⟩

/-- function 104: pub-mintmark/pub/btcdwire.messageError -/
def tys104 : Nat → Option Ty := fun t => find [(185, y185), (9, y9)] t
theorem ok104 : TysOk Tryd.prog tys104 := tysOk_of ⟨ty185, ty9, trivial⟩

/-- function 105: (encoding/binary.littleEndian).Uint32 -/
def tys105 : Nat → Option Ty := fun t => find [(159, y159), (22, y22), (5, y5), (23, y23)] t
theorem ok105 : TysOk Tryd.prog tys105 := tysOk_of ⟨ty159, ty22, ty5, ty23, trivial⟩

/-- function 106: (encoding/binary.littleEndian).Uint16 -/
def tys106 : Nat → Option Ty := fun t => find [(159, y159), (22, y22), (5, y5), (161, y161)] t
theorem ok106 : TysOk Tryd.prog tys106 := tysOk_of ⟨ty159, ty22, ty5, ty161, trivial⟩

/-- function 122: io.ReadAtLeast -/
def tys122 : Nat → Option Ty := fun t => find [(22, y22), (5, y5), (3, y3), (58, y58)] t
theorem ok122 : TysOk Tryd.prog tys122 := tysOk_of ⟨ty22, ty5, ty3, ty58, trivial⟩

/-- function 160: (*bytes.Reader).Read -/
def tys160 : Nat → Option Ty := fun t => find [(127, y127), (22, y22), (5, y5), (2, y2), (3, y3), (58, y58)] t
theorem ok160 : TysOk Tryd.prog tys160 := tysOk_of ⟨ty127, ty22, ty5, ty2, ty3, ty58, trivial⟩
end Go.Proofs.YtnlpjppjhikooaaDoor.Tyvd
