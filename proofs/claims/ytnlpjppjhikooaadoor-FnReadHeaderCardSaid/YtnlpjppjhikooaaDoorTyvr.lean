/- The types that some functions name, as the evaluator wants them. Printed by a program of my own (seatgen.py). -/
import Derived.Test.YtnlpjppjhikooaaDoorSl
import Derived.Test.YtnlpjppjhikooaaDoorProg
import Derived.KernelRfl
namespace Go.Proofs.YtnlpjppjhikooaaDoor.Tyvr
open Go Go.Se Go.Proofs

/-- int -/
def y3 : Ty := ⟨.int .i64, 1, false, .int .i64 0, 8⟩
theorem ty3 : tyOf Tryd.prog 3 = some y3 := by kernel_rfl
/-- uint8 -/
def y5 : Ty := ⟨.int .u8, 1, false, .int .u8 0, 1⟩
theorem ty5 : tyOf Tryd.prog 5 = some y5 := by kernel_rfl
/-- []uint8 -/
def y22 : Ty := ⟨.slc 5, 1, false, .slice none 0 0, 24⟩
theorem ty22 : tyOf Tryd.prog 22 = some y22 := by kernel_rfl
/-- uint32 -/
def y23 : Ty := ⟨.int .u32, 1, false, .int .u32 0, 4⟩
theorem ty23 : tyOf Tryd.prog 23 = some y23 := by kernel_rfl
/-- uint64 -/
def y33 : Ty := ⟨.int .u64, 1, false, .int .u64 0, 8⟩
theorem ty33 : tyOf Tryd.prog 33 = some y33 := by kernel_rfl
/-- error -/
def y58 : Ty := ⟨.ifc, 1, false, .nilIface, 16⟩
theorem ty58 : tyOf Tryd.prog 58 = some y58 := by kernel_rfl
/-- bytes.readOp -/
def y65 : Ty := ⟨.int .i8, 1, false, .int .i8 0, 1⟩
theorem ty65 : tyOf Tryd.prog 65 = some y65 := by kernel_rfl
/-- bytes.Buffer -/
def y67 : Ty := ⟨.stc [(0, 22), (1, 3), (2, 65)], 3, true, .agg #[.slice none 0 0, .int .i64 0, .int .i8 0], 40⟩
theorem ty67 : tyOf Tryd.prog 67 = some y67 := by kernel_rfl
/-- *bytes.Buffer -/
def y69 : Ty := ⟨.ptr, 1, false, .pointer none, 8⟩
theorem ty69 : tyOf Tryd.prog 69 = some y69 := by kernel_rfl
/-- wire.binaryFreeList -/
def y120 : Ty := ⟨.stc [], 0, true, .agg #[], 0⟩
theorem ty120 : tyOf Tryd.prog 120 = some y120 := by kernel_rfl
/-- binary.littleEndian -/
def y159 : Ty := ⟨.stc [], 0, true, .agg #[], 0⟩
theorem ty159 : tyOf Tryd.prog 159 = some y159 := by kernel_rfl
/-- uint16 -/
def y161 : Ty := ⟨.int .u16, 1, false, .int .u16 0, 2⟩
theorem ty161 : tyOf Tryd.prog 161 = some y161 := by kernel_rfl

/-- function 15: pub-mintmark/impl.VarInt -/
def tys15 : Nat → Option Ty := fun t => find [(67, y67), (69, y69)] t
theorem ok15 : TysOk Tryd.prog tys15 := tysOk_of ⟨ty67, ty69, trivial⟩

/-- function 16: pub-mintmark/spec.VarInt -/
def tys16 : Nat → Option Ty := fun t => find [(33, y33), (5, y5), (22, y22)] t
theorem ok16 : TysOk Tryd.prog tys16 := tysOk_of ⟨ty33, ty5, ty22, trivial⟩

/-- function 37: pub-mintmark/pub/btcdwire.WriteVarInt -/
def tys37 : Nat → Option Ty := fun t => find [(120, y120)] t
theorem ok37 : TysOk Tryd.prog tys37 := tysOk_of ⟨ty120, trivial⟩

/-- function 38: (*bytes.Buffer).Bytes -/
def tys38 : Nat → Option Ty := fun t => find [(67, y67), (22, y22), (5, y5), (3, y3), (65, y65)] t
theorem ok38 : TysOk Tryd.prog tys38 := tysOk_of ⟨ty67, ty22, ty5, ty3, ty65, trivial⟩

/-- function 39: pub-mintmark/spec.little -/
def tys39 : Nat → Option Ty := fun t => find [(3, y3), (33, y33), (5, y5), (22, y22)] t
theorem ok39 : TysOk Tryd.prog tys39 := tysOk_of ⟨ty3, ty33, ty5, ty22, trivial⟩

/-- function 65: (pub-mintmark/pub/btcdwire.binaryFreeList).Borrow -/
def tys65 : Nat → Option Ty := fun t => find [(120, y120), (22, y22), (5, y5)] t
theorem ok65 : TysOk Tryd.prog tys65 := tysOk_of ⟨ty120, ty22, ty5, trivial⟩

/-- function 66: (pub-mintmark/pub/btcdwire.binaryFreeList).Return -/
def tys66 : Nat → Option Ty := fun t => find [(120, y120)] t
theorem ok66 : TysOk Tryd.prog tys66 := tysOk_of ⟨ty120, trivial⟩

/-- function 67: pub-mintmark/pub/btcdwire.WriteVarIntBuf -/
def tys67 : Nat → Option Ty := fun t => find [(33, y33), (5, y5), (22, y22), (159, y159), (161, y161), (23, y23), (58, y58)] t
theorem ok67 : TysOk Tryd.prog tys67 := tysOk_of ⟨ty33, ty5, ty22, ty159, ty161, ty23, ty58, trivial⟩

/-- function 99: (encoding/binary.littleEndian).PutUint16 -/
def tys99 : Nat → Option Ty := fun t => find [(159, y159), (22, y22), (5, y5), (161, y161)] t
theorem ok99 : TysOk Tryd.prog tys99 := tysOk_of ⟨ty159, ty22, ty5, ty161, trivial⟩

/-- function 100: (encoding/binary.littleEndian).PutUint32 -/
def tys100 : Nat → Option Ty := fun t => find [(159, y159), (22, y22), (5, y5), (23, y23)] t
theorem ok100 : TysOk Tryd.prog tys100 := tysOk_of ⟨ty159, ty22, ty5, ty23, trivial⟩

/-- function 101: (encoding/binary.littleEndian).PutUint64 -/
def tys101 : Nat → Option Ty := fun t => find [(159, y159), (22, y22), (5, y5), (33, y33)] t
theorem ok101 : TysOk Tryd.prog tys101 := tysOk_of ⟨ty159, ty22, ty5, ty33, trivial⟩

/-- function 153: (*bytes.Buffer).Write -/
def tys153 : Nat → Option Ty := fun t => find [(67, y67), (22, y22), (5, y5), (3, y3), (65, y65)] t
theorem ok153 : TysOk Tryd.prog tys153 := tysOk_of ⟨ty67, ty22, ty5, ty3, ty65, trivial⟩

/-- function 155: (*bytes.Buffer).tryGrowByReslice -/
def tys155 : Nat → Option Ty := fun t => find [(67, y67), (22, y22), (5, y5), (3, y3), (65, y65)] t
theorem ok155 : TysOk Tryd.prog tys155 := tysOk_of ⟨ty67, ty22, ty5, ty3, ty65, trivial⟩

/-- function 156: (*bytes.Buffer).grow -/
def tys156 : Nat → Option Ty := fun t => find [(3, y3), (67, y67), (22, y22), (5, y5), (65, y65), (58, y58)] t
theorem ok156 : TysOk Tryd.prog tys156 := tysOk_of ⟨ty3, ty67, ty22, ty5, ty65, ty58, trivial⟩

/-- function 157: (*bytes.Buffer).Len -/
def tys157 : Nat → Option Ty := fun t => find [(67, y67), (22, y22), (5, y5), (3, y3), (65, y65)] t
theorem ok157 : TysOk Tryd.prog tys157 := tysOk_of ⟨ty67, ty22, ty5, ty3, ty65, trivial⟩
end Go.Proofs.YtnlpjppjhikooaaDoor.Tyvr
