/- The types that some functions name, as the evaluator wants them. Printed by a program of my own (seatgen.py). -/
import Derived.Test.YtnlpjppjhikooaaDoorSl
import Derived.Test.YtnlpjppjhikooaaDoorProg
import Derived.KernelRfl
namespace Go.Proofs.YtnlpjppjhikooaaDoor.Tyvj
open Go Go.Se Go.Proofs

/-- int64 -/
def y2 : Ty := ⟨.int .i64, 1, false, .int .i64 0, 8⟩
theorem ty2 : tyOf Tryd.prog 2 = some y2 := by kernel_rfl
/-- int -/
def y3 : Ty := ⟨.int .i64, 1, false, .int .i64 0, 8⟩
theorem ty3 : tyOf Tryd.prog 3 = some y3 := by kernel_rfl
/-- uint8 -/
def y5 : Ty := ⟨.int .u8, 1, false, .int .u8 0, 1⟩
theorem ty5 : tyOf Tryd.prog 5 = some y5 := by kernel_rfl
/-- int32 -/
def y21 : Ty := ⟨.int .i32, 1, false, .int .i32 0, 4⟩
theorem ty21 : tyOf Tryd.prog 21 = some y21 := by kernel_rfl
/-- []uint8 -/
def y22 : Ty := ⟨.slc 5, 1, false, .slice none 0 0, 24⟩
theorem ty22 : tyOf Tryd.prog 22 = some y22 := by kernel_rfl
/-- uint32 -/
def y23 : Ty := ⟨.int .u32, 1, false, .int .u32 0, 4⟩
theorem ty23 : tyOf Tryd.prog 23 = some y23 := by kernel_rfl
/-- [32]uint8 -/
def y43 : Ty := ⟨.arr 32 5, 32, true, .agg #[.int .u8 0, .int .u8 0, .int .u8 0, .int .u8 0, .int .u8 0, .int .u8 0, .int .u8 0, .int .u8 0, .int .u8 0, .int .u8 0, .int .u8 0, .int .u8 0, .int .u8 0, .int .u8 0, .int .u8 0, .int .u8 0, .int .u8 0, .int .u8 0, .int .u8 0, .int .u8 0, .int .u8 0, .int .u8 0, .int .u8 0, .int .u8 0, .int .u8 0, .int .u8 0, .int .u8 0, .int .u8 0, .int .u8 0, .int .u8 0, .int .u8 0, .int .u8 0], 32⟩
theorem ty43 : tyOf Tryd.prog 43 = some y43 := by kernel_rfl
/-- impl.Header -/
def y45 : Ty := ⟨.stc [(0, 21), (1, 43), (33, 43), (65, 23), (66, 23), (67, 23)], 68, true, .agg #[.int .i32 0, .int .u8 0, .int .u8 0, .int .u8 0, .int .u8 0, .int .u8 0, .int .u8 0, .int .u8 0, .int .u8 0, .int .u8 0, .int .u8 0, .int .u8 0, .int .u8 0, .int .u8 0, .int .u8 0, .int .u8 0, .int .u8 0, .int .u8 0, .int .u8 0, .int .u8 0, .int .u8 0, .int .u8 0, .int .u8 0, .int .u8 0, .int .u8 0, .int .u8 0, .int .u8 0, .int .u8 0, .int .u8 0, .int .u8 0, .int .u8 0, .int .u8 0, .int .u8 0, .int .u8 0, .int .u8 0, .int .u8 0, .int .u8 0, .int .u8 0, .int .u8 0, .int .u8 0, .int .u8 0, .int .u8 0, .int .u8 0, .int .u8 0, .int .u8 0, .int .u8 0, .int .u8 0, .int .u8 0, .int .u8 0, .int .u8 0, .int .u8 0, .int .u8 0, .int .u8 0, .int .u8 0, .int .u8 0, .int .u8 0, .int .u8 0, .int .u8 0, .int .u8 0, .int .u8 0, .int .u8 0, .int .u8 0, .int .u8 0, .int .u8 0, .int .u8 0, .int .u32 0, .int .u32 0, .int .u32 0], 80⟩
theorem ty45 : tyOf Tryd.prog 45 = some y45 := by kernel_rfl
/-- error -/
def y58 : Ty := ⟨.ifc, 1, false, .nilIface, 16⟩
theorem ty58 : tyOf Tryd.prog 58 = some y58 := by kernel_rfl
/-- *bytes.Reader -/
def y72 : Ty := ⟨.ptr, 1, false, .pointer none, 8⟩
theorem ty72 : tyOf Tryd.prog 72 = some y72 := by kernel_rfl
/-- chainhash.Hash -/
def y81 : Ty := ⟨.arr 32 5, 32, true, .agg #[.int .u8 0, .int .u8 0, .int .u8 0, .int .u8 0, .int .u8 0, .int .u8 0, .int .u8 0, .int .u8 0, .int .u8 0, .int .u8 0, .int .u8 0, .int .u8 0, .int .u8 0, .int .u8 0, .int .u8 0, .int .u8 0, .int .u8 0, .int .u8 0, .int .u8 0, .int .u8 0, .int .u8 0, .int .u8 0, .int .u8 0, .int .u8 0, .int .u8 0, .int .u8 0, .int .u8 0, .int .u8 0, .int .u8 0, .int .u8 0, .int .u8 0, .int .u8 0], 32⟩
theorem ty81 : tyOf Tryd.prog 81 = some y81 := by kernel_rfl
/-- time.Time -/
def y90 : Ty := ⟨.stc [(0, 2)], 1, true, .agg #[.int .i64 0], 8⟩
theorem ty90 : tyOf Tryd.prog 90 = some y90 := by kernel_rfl
/-- wire.BlockHeader -/
def y92 : Ty := ⟨.stc [(0, 21), (1, 81), (33, 81), (65, 90), (66, 23), (67, 23)], 68, true, .agg #[.int .i32 0, .int .u8 0, .int .u8 0, .int .u8 0, .int .u8 0, .int .u8 0, .int .u8 0, .int .u8 0, .int .u8 0, .int .u8 0, .int .u8 0, .int .u8 0, .int .u8 0, .int .u8 0, .int .u8 0, .int .u8 0, .int .u8 0, .int .u8 0, .int .u8 0, .int .u8 0, .int .u8 0, .int .u8 0, .int .u8 0, .int .u8 0, .int .u8 0, .int .u8 0, .int .u8 0, .int .u8 0, .int .u8 0, .int .u8 0, .int .u8 0, .int .u8 0, .int .u8 0, .int .u8 0, .int .u8 0, .int .u8 0, .int .u8 0, .int .u8 0, .int .u8 0, .int .u8 0, .int .u8 0, .int .u8 0, .int .u8 0, .int .u8 0, .int .u8 0, .int .u8 0, .int .u8 0, .int .u8 0, .int .u8 0, .int .u8 0, .int .u8 0, .int .u8 0, .int .u8 0, .int .u8 0, .int .u8 0, .int .u8 0, .int .u8 0, .int .u8 0, .int .u8 0, .int .u8 0, .int .u8 0, .int .u8 0, .int .u8 0, .int .u8 0, .int .u8 0, .int .i64 0, .int .u32 0, .int .u32 0], 88⟩
theorem ty92 : tyOf Tryd.prog 92 = some y92 := by kernel_rfl
/-- wire.binaryFreeList -/
def y120 : Ty := ⟨.stc [], 0, true, .agg #[], 0⟩
theorem ty120 : tyOf Tryd.prog 120 = some y120 := by kernel_rfl
/-- bytes.Reader -/
def y127 : Ty := ⟨.stc [(0, 22), (1, 2), (2, 3)], 3, true, .agg #[.slice none 0 0, .int .i64 0, .int .i64 0], 40⟩
theorem ty127 : tyOf Tryd.prog 127 = some y127 := by kernel_rfl
/-- binary.littleEndian -/
def y159 : Ty := ⟨.stc [], 0, true, .agg #[], 0⟩
theorem ty159 : tyOf Tryd.prog 159 = some y159 := by kernel_rfl

/-- function 23: pub-mintmark/impl.ReadHeader -/
def tys23 : Nat → Option Ty := fun t => find [(45, y45), (92, y92), (72, y72), (58, y58), (21, y21), (43, y43), (5, y5), (23, y23)] t
theorem ok23 : TysOk Tryd.prog tys23 := tysOk_of ⟨ty45, ty92, ty72, ty58, ty21, ty43, ty5, ty23, trivial⟩

/-- function 41: pub-mintmark/impl.reader -/
def tys41 : Nat → Option Ty := fun t => find [] t
theorem ok41 : TysOk Tryd.prog tys41 := tysOk_of trivial

/-- function 50: (*pub-mintmark/pub/btcdwire.BlockHeader).Deserialize -/
def tys50 : Nat → Option Ty := fun t => find [] t
theorem ok50 : TysOk Tryd.prog tys50 := tysOk_of trivial

/-- function 51: pub-mintmark/impl.ofHeader -/
def tys51 : Nat → Option Ty := fun t => find [(45, y45), (92, y92), (21, y21), (81, y81), (5, y5), (90, y90), (23, y23), (2, y2), (43, y43)] t
theorem ok51 : TysOk Tryd.prog tys51 := tysOk_of ⟨ty45, ty92, ty21, ty81, ty5, ty90, ty23, ty2, ty43, trivial⟩

/-- function 65: (pub-mintmark/pub/btcdwire.binaryFreeList).Borrow -/
def tys65 : Nat → Option Ty := fun t => find [(120, y120), (22, y22), (5, y5)] t
theorem ok65 : TysOk Tryd.prog tys65 := tysOk_of ⟨ty120, ty22, ty5, trivial⟩

/-- function 66: (pub-mintmark/pub/btcdwire.binaryFreeList).Return -/
def tys66 : Nat → Option Ty := fun t => find [(120, y120)] t
theorem ok66 : TysOk Tryd.prog tys66 := tysOk_of ⟨ty120, trivial⟩

/-- function 68: bytes.NewReader -/
def tys68 : Nat → Option Ty := fun t => find [(127, y127), (22, y22), (5, y5), (2, y2), (3, y3)] t
theorem ok68 : TysOk Tryd.prog tys68 := tysOk_of ⟨ty127, ty22, ty5, ty2, ty3, trivial⟩

/-- function 76: pub-mintmark/pub/btcdwire.readBlockHeader -/
def tys76 : Nat → Option Ty := fun t => find [(120, y120)] t
theorem ok76 : TysOk Tryd.prog tys76 := tysOk_of ⟨ty120, trivial⟩

/-- function 77: (pub-mintmark/pub/given/time.Time).Unix -/
def tys77 : Nat → Option Ty := fun t => find [(90, y90), (2, y2)] t
theorem ok77 : TysOk Tryd.prog tys77 := tysOk_of ⟨ty90, ty2, trivial⟩

/-- function 105: (encoding/binary.littleEndian).Uint32 -/
def tys105 : Nat → Option Ty := fun t => find [(159, y159), (22, y22), (5, y5), (23, y23)] t
theorem ok105 : TysOk Tryd.prog tys105 := tysOk_of ⟨ty159, ty22, ty5, ty23, trivial⟩

/-- function 109: pub-mintmark/pub/btcdwire.readBlockHeaderBuf -/
def tys109 : Nat → Option Ty := fun t => find [(22, y22), (5, y5), (58, y58), (159, y159), (23, y23), (21, y21), (92, y92), (81, y81), (90, y90), (2, y2)] t
theorem ok109 : TysOk Tryd.prog tys109 := tysOk_of ⟨ty22, ty5, ty58, ty159, ty23, ty21, ty92, ty81, ty90, ty2, trivial⟩

/-- function 125: pub-mintmark/pub/given/time.Unix -/
def tys125 : Nat → Option Ty := fun t => find [(90, y90), (2, y2)] t
theorem ok125 : TysOk Tryd.prog tys125 := tysOk_of ⟨ty90, ty2, trivial⟩
end Go.Proofs.YtnlpjppjhikooaaDoor.Tyvj
