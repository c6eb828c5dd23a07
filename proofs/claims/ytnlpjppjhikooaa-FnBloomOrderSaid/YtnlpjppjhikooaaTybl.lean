/- The types that some functions name, as the evaluator wants them. Printed by a program of my own (seatgen.py). -/
import Derived.Test.YtnlpjppjhikooaaSl
import Derived.Test.YtnlpjppjhikooaaProg
import Derived.KernelRfl
namespace Go.Proofs.Ytnlpjppjhikooaa.Tybl
open Go Go.Se Go.Proofs

/-- int -/
def y3 : Ty := ⟨.int .i64, 1, false, .int .i64 0, 8⟩
theorem ty3 : tyOf Try.prog 3 = some y3 := by kernel_rfl
/-- uint8 -/
def y5 : Ty := ⟨.int .u8, 1, false, .int .u8 0, 1⟩
theorem ty5 : tyOf Try.prog 5 = some y5 := by kernel_rfl
/-- int32 -/
def y21 : Ty := ⟨.int .i32, 1, false, .int .i32 0, 4⟩
theorem ty21 : tyOf Try.prog 21 = some y21 := by kernel_rfl
/-- []uint8 -/
def y22 : Ty := ⟨.slc 5, 1, false, .slice none 0 0, 24⟩
theorem ty22 : tyOf Try.prog 22 = some y22 := by kernel_rfl
/-- uint32 -/
def y23 : Ty := ⟨.int .u32, 1, false, .int .u32 0, 4⟩
theorem ty23 : tyOf Try.prog 23 = some y23 := by kernel_rfl
/-- impl.Bloom -/
def y25 : Ty := ⟨.stc [(0, 22), (1, 23), (2, 23)], 3, true, .agg #[.slice none 0 0, .int .u32 0, .int .u32 0], 32⟩
theorem ty25 : tyOf Try.prog 25 = some y25 := by kernel_rfl
/-- *wire.MsgFilterLoad -/
def y75 : Ty := ⟨.ptr, 1, false, .pointer none, 8⟩
theorem ty75 : tyOf Try.prog 75 = some y75 := by kernel_rfl
/-- wire.BloomUpdateType -/
def y76 : Ty := ⟨.int .u8, 1, false, .int .u8 0, 1⟩
theorem ty76 : tyOf Try.prog 76 = some y76 := by kernel_rfl
/-- wire.MsgFilterLoad -/
def y78 : Ty := ⟨.stc [(0, 22), (1, 23), (2, 23), (3, 76)], 4, true, .agg #[.slice none 0 0, .int .u32 0, .int .u32 0, .int .u8 0], 40⟩
theorem ty78 : tyOf Try.prog 78 = some y78 := by kernel_rfl
/-- sync.noCopy -/
def y80 : Ty := ⟨.stc [], 0, true, .agg #[], 0⟩
theorem ty80 : tyOf Try.prog 80 = some y80 := by kernel_rfl
/-- sync.Mutex -/
def y82 : Ty := ⟨.stc [(0, 21), (1, 23)], 2, true, .agg #[.int .i32 0, .int .u32 0], 8⟩
theorem ty82 : tyOf Try.prog 82 = some y82 := by kernel_rfl
/-- sync.Mutex -/
def y84 : Ty := ⟨.stc [(0, 80), (0, 82)], 2, true, .agg #[.int .i32 0, .int .u32 0], 8⟩
theorem ty84 : tyOf Try.prog 84 = some y84 := by kernel_rfl
/-- bloom.Filter -/
def y86 : Ty := ⟨.stc [(0, 84), (2, 75)], 3, true, .agg #[.int .i32 0, .int .u32 0, .pointer none], 16⟩
theorem ty86 : tyOf Try.prog 86 = some y86 := by kernel_rfl
/-- binary.littleEndian -/
def y110 : Ty := ⟨.stc [], 0, true, .agg #[], 0⟩
theorem ty110 : tyOf Try.prog 110 = some y110 := by kernel_rfl
/-- *sync.Mutex -/
def y141 : Ty := ⟨.ptr, 1, false, .pointer none, 8⟩
theorem ty141 : tyOf Try.prog 141 = some y141 := by kernel_rfl
/-- unsafe.Pointer -/
def y145 : Ty := ⟨.other, 1, false, .pointer none, 8⟩
theorem ty145 : tyOf Try.prog 145 = some y145 := by kernel_rfl

/-- function 3: pub-mintmark/laws.FnBloomOrder -/
def tys3 : Nat → Option Ty := fun t => find [(25, y25), (22, y22), (5, y5), (3, y3)] t
theorem ok3 : TysOk Try.prog tys3 := tysOk_of ⟨ty25, ty22, ty5, ty3, trivial⟩

/-- function 6: pub-mintmark/laws.zzFits14 -/
def tys6 : Nat → Option Ty := fun t => find [(25, y25), (22, y22), (5, y5), (23, y23), (3, y3)] t
theorem ok6 : TysOk Try.prog tys6 := tysOk_of ⟨ty25, ty22, ty5, ty23, ty3, trivial⟩

/-- function 7: pub-mintmark/laws.awakeBloom -/
def tys7 : Nat → Option Ty := fun t => find [(22, y22), (5, y5), (25, y25), (23, y23), (3, y3)] t
theorem ok7 : TysOk Try.prog tys7 := tysOk_of ⟨ty22, ty5, ty25, ty23, ty3, trivial⟩

/-- function 8: pub-mintmark/laws.bloom -/
def tys8 : Nat → Option Ty := fun t => find [(25, y25), (22, y22), (5, y5), (23, y23), (3, y3)] t
theorem ok8 : TysOk Try.prog tys8 := tysOk_of ⟨ty25, ty22, ty5, ty23, ty3, trivial⟩

/-- function 9: pub-mintmark/impl.BloomAdd -/
def tys9 : Nat → Option Ty := fun t => find [(25, y25)] t
theorem ok9 : TysOk Try.prog tys9 := tysOk_of ⟨ty25, trivial⟩

/-- function 10: pub-mintmark/laws.sameBloom -/
def tys10 : Nat → Option Ty := fun t => find [(25, y25), (22, y22), (5, y5), (23, y23)] t
theorem ok10 : TysOk Try.prog tys10 := tysOk_of ⟨ty25, ty22, ty5, ty23, trivial⟩

/-- function 18: pub-mintmark/impl.filterOf -/
def tys18 : Nat → Option Ty := fun t => find [(25, y25), (22, y22), (5, y5), (23, y23), (78, y78), (76, y76)] t
theorem ok18 : TysOk Try.prog tys18 := tysOk_of ⟨ty25, ty22, ty5, ty23, ty78, ty76, trivial⟩

/-- function 19: (*pub-mintmark/pub/btcdbtcutil/bloom.Filter).Add -/
def tys19 : Nat → Option Ty := fun t => find [(86, y86), (84, y84), (75, y75)] t
theorem ok19 : TysOk Try.prog tys19 := tysOk_of ⟨ty86, ty84, ty75, trivial⟩

/-- function 20: pub-mintmark/impl.ofFilter -/
def tys20 : Nat → Option Ty := fun t => find [(25, y25), (78, y78), (22, y22), (5, y5), (23, y23), (76, y76)] t
theorem ok20 : TysOk Try.prog tys20 := tysOk_of ⟨ty25, ty78, ty22, ty5, ty23, ty76, trivial⟩

/-- function 21: pub-mintmark/laws.same -/
def tys21 : Nat → Option Ty := fun t => find [(22, y22), (5, y5), (3, y3)] t
theorem ok21 : TysOk Try.prog tys21 := tysOk_of ⟨ty22, ty5, ty3, trivial⟩

/-- function 26: pub-mintmark/impl.copied -/
def tys26 : Nat → Option Ty := fun t => find [(22, y22), (5, y5)] t
theorem ok26 : TysOk Try.prog tys26 := tysOk_of ⟨ty22, ty5, trivial⟩

/-- function 33: pub-mintmark/pub/btcdbtcutil/bloom.LoadFilter -/
def tys33 : Nat → Option Ty := fun t => find [(86, y86), (84, y84), (75, y75)] t
theorem ok33 : TysOk Try.prog tys33 := tysOk_of ⟨ty86, ty84, ty75, trivial⟩

/-- function 34: (*sync.Mutex).Lock -/
def tys34 : Nat → Option Ty := fun t => find [(84, y84), (80, y80), (82, y82)] t
theorem ok34 : TysOk Try.prog tys34 := tysOk_of ⟨ty84, ty80, ty82, trivial⟩

/-- function 35: (*pub-mintmark/pub/btcdbtcutil/bloom.Filter).add -/
def tys35 : Nat → Option Ty := fun t => find [(86, y86), (84, y84), (75, y75), (78, y78), (22, y22), (5, y5), (23, y23), (76, y76)] t
theorem ok35 : TysOk Try.prog tys35 := tysOk_of ⟨ty86, ty84, ty75, ty78, ty22, ty5, ty23, ty76, trivial⟩

/-- function 36: (*sync.Mutex).Unlock -/
def tys36 : Nat → Option Ty := fun t => find [(84, y84), (80, y80), (82, y82)] t
theorem ok36 : TysOk Try.prog tys36 := tysOk_of ⟨ty84, ty80, ty82, trivial⟩

/-- function 37: (*pub-mintmark/pub/btcdbtcutil/bloom.Filter).MsgFilterLoad -/
def tys37 : Nat → Option Ty := fun t => find [(86, y86), (84, y84), (75, y75)] t
theorem ok37 : TysOk Try.prog tys37 := tysOk_of ⟨ty86, ty84, ty75, trivial⟩

/-- function 45: (encoding/binary.littleEndian).Uint32 -/
def tys45 : Nat → Option Ty := fun t => find [(110, y110), (22, y22), (5, y5), (23, y23)] t
theorem ok45 : TysOk Try.prog tys45 := tysOk_of ⟨ty110, ty22, ty5, ty23, trivial⟩

/-- function 49: (*pub-mintmark/pub/btcdbtcutil/bloom.Filter).normalize -/
def tys49 : Nat → Option Ty := fun t => find [(86, y86), (84, y84), (75, y75), (78, y78), (22, y22), (5, y5), (23, y23), (76, y76), (3, y3)] t
theorem ok49 : TysOk Try.prog tys49 := tysOk_of ⟨ty86, ty84, ty75, ty78, ty22, ty5, ty23, ty76, ty3, trivial⟩

/-- function 50: (*internal/sync.Mutex).Lock -/
def tys50 : Nat → Option Ty := fun t => find [(82, y82), (21, y21), (23, y23), (141, y141), (145, y145)] t
theorem ok50 : TysOk Try.prog tys50 := tysOk_of ⟨ty82, ty21, ty23, ty141, ty145, trivial⟩

/-- function 51: (*pub-mintmark/pub/btcdbtcutil/bloom.Filter).hash -/
def tys51 : Nat → Option Ty := fun t => find [(23, y23), (86, y86), (84, y84), (75, y75), (78, y78), (22, y22), (5, y5), (76, y76), (3, y3)] t
theorem ok51 : TysOk Try.prog tys51 := tysOk_of ⟨ty23, ty86, ty84, ty75, ty78, ty22, ty5, ty76, ty3, trivial⟩

/-- function 52: (*internal/sync.Mutex).Unlock -/
def tys52 : Nat → Option Ty := fun t => find [(82, y82), (21, y21), (23, y23), (141, y141), (145, y145)] t
theorem ok52 : TysOk Try.prog tys52 := tysOk_of ⟨ty82, ty21, ty23, ty141, ty145, trivial⟩

/-- function 72: pub-mintmark/pub/btcdbtcutil/bloom.MurmurHash3 -/
def tys72 : Nat → Option Ty := fun t => find [(22, y22), (5, y5), (3, y3), (23, y23), (110, y110)] t
theorem ok72 : TysOk Try.prog tys72 := tysOk_of ⟨ty22, ty5, ty3, ty23, ty110, trivial⟩
end Go.Proofs.Ytnlpjppjhikooaa.Tybl
