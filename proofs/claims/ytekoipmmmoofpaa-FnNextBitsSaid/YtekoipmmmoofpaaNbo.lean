/- The bits that a header behind a chain must have, by the package, from the text's rules and headers. -/
import Derived.Test.YtekoipmmmoofpaaNbm
import Derived.Test.YtekoipmmmoofpaaNbl
import Derived.Test.YtekoipmmmoofpaaSl
import Derived.Test.YtekoipmmmoofpaaProg
import Derived.KernelRfl
-- merged
/- The types that some functions name, as the evaluator wants them. Printed by a program of my own (seatgen.py). -/
namespace Go.Proofs.Ytekoipmmmoofpaa.Tyno
open Go Go.Se Go.Proofs

/-- int -/
def y3 : Ty := ⟨.int .i64, 1, false, .int .i64 0, 8⟩
theorem ty3 : tyOf Try.prog 3 = some y3 := by kernel_rfl
/-- impl.Rules -/
def y25 : Ty := ⟨.stc [(0, 22), (1, 23), (2, 2), (3, 2), (4, 2), (5, 4), (6, 2), (7, 4), (8, 21), (9, 21), (10, 21)], 11, true, .agg #[.slice none 0 0, .int .u32 0, .int .i64 0, .int .i64 0, .int .i64 0, .bool false, .int .i64 0, .bool false, .int .i32 0, .int .i32 0, .int .i32 0], 88⟩
theorem ty25 : tyOf Try.prog 25 = some y25 := by kernel_rfl
/-- []impl.Header -/
def y26 : Ty := ⟨.slc 37, 1, false, .slice none 0 0, 24⟩
theorem ty26 : tyOf Try.prog 26 = some y26 := by kernel_rfl
/-- impl.Header -/
def y37 : Ty := ⟨.stc [(0, 21), (1, 35), (33, 35), (65, 23), (66, 23), (67, 23)], 68, true, .agg #[.int .i32 0, .int .u8 0, .int .u8 0, .int .u8 0, .int .u8 0, .int .u8 0, .int .u8 0, .int .u8 0, .int .u8 0, .int .u8 0, .int .u8 0, .int .u8 0, .int .u8 0, .int .u8 0, .int .u8 0, .int .u8 0, .int .u8 0, .int .u8 0, .int .u8 0, .int .u8 0, .int .u8 0, .int .u8 0, .int .u8 0, .int .u8 0, .int .u8 0, .int .u8 0, .int .u8 0, .int .u8 0, .int .u8 0, .int .u8 0, .int .u8 0, .int .u8 0, .int .u8 0, .int .u8 0, .int .u8 0, .int .u8 0, .int .u8 0, .int .u8 0, .int .u8 0, .int .u8 0, .int .u8 0, .int .u8 0, .int .u8 0, .int .u8 0, .int .u8 0, .int .u8 0, .int .u8 0, .int .u8 0, .int .u8 0, .int .u8 0, .int .u8 0, .int .u8 0, .int .u8 0, .int .u8 0, .int .u8 0, .int .u8 0, .int .u8 0, .int .u8 0, .int .u8 0, .int .u8 0, .int .u8 0, .int .u8 0, .int .u8 0, .int .u8 0, .int .u8 0, .int .u32 0, .int .u32 0, .int .u32 0], 80⟩
theorem ty37 : tyOf Try.prog 37 = some y37 := by kernel_rfl
/-- impl.node -/
def y43 : Ty := ⟨.stc [(0, 26), (1, 3)], 2, true, .agg #[.slice none 0 0, .int .i64 0], 32⟩
theorem ty43 : tyOf Try.prog 43 = some y43 := by kernel_rfl
/-- time.Time -/
def y45 : Ty := ⟨.stc [(0, 2)], 1, true, .agg #[.int .i64 0], 8⟩
theorem ty45 : tyOf Try.prog 45 = some y45 := by kernel_rfl
/-- impl.rules -/
def y49 : Ty := ⟨.stc [(0, 25), (11, 47)], 12, true, .agg #[.slice none 0 0, .int .u32 0, .int .i64 0, .int .i64 0, .int .i64 0, .bool false, .int .i64 0, .bool false, .int .i32 0, .int .i32 0, .int .i32 0, .pointer none], 96⟩
theorem ty49 : tyOf Try.prog 49 = some y49 := by kernel_rfl

/-- function 6: pub-mintmark/impl.NextBits -/
def tys6 : Nat → Option Ty := fun t => find [(25, y25), (26, y26), (37, y37), (3, y3), (43, y43), (49, y49)] t
theorem ok6 : TysOk Try.prog tys6 := tysOk_of ⟨ty25, ty26, ty37, ty3, ty43, ty49, trivial⟩

/-- function 11: pub-mintmark/pub/btcd/blockchain.NextRequiredDifficulty -/
def tys11 : Nat → Option Ty := fun t => find [(45, y45)] t
theorem ok11 : TysOk Try.prog tys11 := tysOk_of ⟨ty45, trivial⟩
end Go.Proofs.Ytekoipmmmoofpaa.Tyno
set_option linter.unusedSimpArgs false
set_option linter.unusedVariables false
namespace Go.Proofs.Ytekoipmmmoofpaa.Co
open Go Go.Se Go.Proofs Go.Proofs.Ytekoipmmmoofpaa.Ht Go.Proofs.Ytekoipmmmoofpaa.Tyno

set_option maxRecDepth 100000 in
set_option maxHeartbeats 2000000 in
theorem nrdP {P : Program} (hP : P = Try.prog) (R : RO) (rv pv plv nv : Value) (lb ts sp fa ra : Int) (re fi : Bool) (hr : RV rv ts sp fa pv) (hp : PV R pv plv lb ts ra re fi) (L : Nat) (hpl : IntAt R plv L) (hL : (dl L).length ≤ 32) (hq : Rul lb ts sp fa ra) (hmn : 1 ≤ ts / fa)
    (a : Option Addr) (n c at0 : Nat) (hnv : NV nv a n c at0) (hs : List GH) (hl : LAt R 68 HAt a n c hs) (hn : n = at0 + 1) (hn8 : n ≤ 80) (hg : ∀ g ∈ hs, Gd g) (w lbn : Nat) (hw : ts / sp = w) (hlb : lb = lbn) (sec : Int) (hs0 : 0 ≤ sec) (hs1 : sec < 4294967296)
    (X : Nat) (hX : X = NB w lbn ts fa re ra fi L hs sec) :
    RetP P 11 [.iface 43 nv, .agg #[.int .i64 sec], .iface 49 rv] R fun _ r => ∃ x : Int, r = .tuple #[.int .u32 x, .nilIface] ∧ x = X := by
  subst hP
  refine retP_vc (fz := []) Try.func11 rfl (by decide) rfl ok11 ?_
  intro P bin cmp cnv neg com bnot beq ofN toN at_ sub_ scmp cat sget ssz ssub elem fld_ hP hA
  conv => cbv
  refine (calcP hP R rv pv plv nv lb ts sp fa ra re fi hr hp L hpl hL hq hmn a n c at0 hnv hs hl hn hn8 hg w lbn hw hlb sec hs0 hs1 X hX).callQ rfl ?_
  rintro _ ⟨x, rfl, hx⟩
  conv => cbv
  intro ρ R'' _ _ _
  exact ⟨_, rfl, hx⟩

set_option maxRecDepth 100000 in
set_option maxHeartbeats 2000000 in
theorem nextI {P : Program} (hP : P = Try.prog) (R : RO) (la : Option Addr) (ln lc L : Nat) (xs : List Int) (h : RI R .u8 la ln xs) (hc : ln ≤ lc) (hN : ln ≤ 32) (hx : xs = (dl L).reverse)
    (lb ts sp fa : Int) (re : Bool) (ra : Int) (fi : Bool) (h34 h66 h65 : Int) (hq : Rul lb ts sp fa ra) (hmn : 1 ≤ ts / fa)
    (a : Option Addr) (n c : Nat) (hs : List GH) (hl : LAt R 68 HAt a n c hs) (hn1 : 1 ≤ n) (hn8 : n ≤ 80) (hg : ∀ g ∈ hs, Gd g) (w lbn : Nat) (hw : ts / sp = w) (hlb : lb = lbn) (sec : Int) (hs0 : 0 ≤ sec) (hs1 : sec < 4294967296)
    (X : Nat) (hX : X = NB w lbn ts fa re ra fi L hs sec) :
    RetP P 6 [rvs la ln lc lb ts sp fa re ra fi h34 h66 h65, .slice a n c, .int .i64 sec] R fun _ r => ∃ x : Int, r = .int .u32 x ∧ x = X := by
  subst hP
  have hL : (dl L).length ≤ 32 := by rw [← List.length_reverse, ← hx, ← h.len]; exact hN
  refine retP_vc (fz := []) Try.func6 rfl (by decide) rfl ok6 ?_
  intro P bin cmp cnv neg com bnot beq ofN toN at_ sub_ scmp cat sget ssz ssub elem fld_ hP hA
  conv => cbv
  have o := ofN_ hA n
  refine ⟨[0, 1, 2, 3, 4, 5, 6, 8, 7, 9, 10, 11, 12, 13, 14, 15, 16], [11], mix hP, by kernel_rfl, ?_⟩
  conv => cbv
  refine (unixP hP R sec).callQ rfl ?_
  rintro _ rfl
  conv => cbv
  refine ⟨⟨⟨rfl, trivial⟩, .refl _⟩, ?_⟩
  conv => cbv
  refine (rulesOfP hP R la ln lc L xs h hc (by omega) hx lb ts sp fa re ra fi h34 h66 h65 hq).callP rfl ?_
  rintro R1 rv hR1 ⟨pv, plv, hr, hp, hpl⟩
  conv => cbv
  refine ⟨⟨⟨rfl, trivial⟩, .refl _⟩, ?_⟩
  conv => cbv
  have hnv : NV (.agg #[.slice a n c, .int .i64 (bin .sub .i64 (ofN n) 1)]) a n c (n - 1) := ⟨_, rfl, by rw [o, sub_i64 hA (by omega)]; omega⟩
  refine (nrdP hP R1 rv pv plv _ lb ts sp fa ra re fi hr hp L hpl hL hq hmn a n c (n - 1) hnv hs (hl.le hR1 HAt.le) (by omega) hn8 hg w lbn hw hlb sec hs0 hs1 X hX).callQ rfl ?_
  rintro _ ⟨x, rfl, hx1⟩
  conv => cbv
  intro ρ R'' _ _ _
  exact ⟨_, rfl, hx1⟩
end Go.Proofs.Ytekoipmmmoofpaa.Co
