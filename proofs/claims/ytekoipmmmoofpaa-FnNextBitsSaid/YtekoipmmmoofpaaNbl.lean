/- The reference's window and earlier target; rules of the text by the package. -/
import Derived.Test.YtekoipmmmoofpaaNbj
import Derived.Test.YtekoipmmmoofpaaSl
import Derived.Test.YtekoipmmmoofpaaProg
import Derived.KernelRfl
-- merged
/- The types that some functions name, as the evaluator wants them. Printed by a program of my own (seatgen.py). -/
namespace Go.Proofs.Ytekoipmmmoofpaa.Tynm
open Go Go.Se Go.Proofs

/-- int64 -/
def y2 : Ty := ⟨.int .i64, 1, false, .int .i64 0, 8⟩
theorem ty2 : tyOf Try.prog 2 = some y2 := by kernel_rfl
/-- int -/
def y3 : Ty := ⟨.int .i64, 1, false, .int .i64 0, 8⟩
theorem ty3 : tyOf Try.prog 3 = some y3 := by kernel_rfl
/-- bool -/
def y4 : Ty := ⟨.bool, 1, false, .bool false, 1⟩
theorem ty4 : tyOf Try.prog 4 = some y4 := by kernel_rfl
/-- uint8 -/
def y5 : Ty := ⟨.int .u8, 1, false, .int .u8 0, 1⟩
theorem ty5 : tyOf Try.prog 5 = some y5 := by kernel_rfl
/-- string -/
def y9 : Ty := ⟨.str, 1, false, .string ByteArray.empty, 16⟩
theorem ty9 : tyOf Try.prog 9 = some y9 := by kernel_rfl
/-- int32 -/
def y21 : Ty := ⟨.int .i32, 1, false, .int .i32 0, 4⟩
theorem ty21 : tyOf Try.prog 21 = some y21 := by kernel_rfl
/-- []uint8 -/
def y22 : Ty := ⟨.slc 5, 1, false, .slice none 0 0, 24⟩
theorem ty22 : tyOf Try.prog 22 = some y22 := by kernel_rfl
/-- uint32 -/
def y23 : Ty := ⟨.int .u32, 1, false, .int .u32 0, 4⟩
theorem ty23 : tyOf Try.prog 23 = some y23 := by kernel_rfl
/-- impl.Rules -/
def y25 : Ty := ⟨.stc [(0, 22), (1, 23), (2, 2), (3, 2), (4, 2), (5, 4), (6, 2), (7, 4), (8, 21), (9, 21), (10, 21)], 11, true, .agg #[.slice none 0 0, .int .u32 0, .int .i64 0, .int .i64 0, .int .i64 0, .bool false, .int .i64 0, .bool false, .int .i32 0, .int .i32 0, .int .i32 0], 88⟩
theorem ty25 : tyOf Try.prog 25 = some y25 := by kernel_rfl
/-- []impl.Header -/
def y26 : Ty := ⟨.slc 37, 1, false, .slice none 0 0, 24⟩
theorem ty26 : tyOf Try.prog 26 = some y26 := by kernel_rfl
/-- [32]uint8 -/
def y35 : Ty := ⟨.arr 32 5, 32, true, .agg #[.int .u8 0, .int .u8 0, .int .u8 0, .int .u8 0, .int .u8 0, .int .u8 0, .int .u8 0, .int .u8 0, .int .u8 0, .int .u8 0, .int .u8 0, .int .u8 0, .int .u8 0, .int .u8 0, .int .u8 0, .int .u8 0, .int .u8 0, .int .u8 0, .int .u8 0, .int .u8 0, .int .u8 0, .int .u8 0, .int .u8 0, .int .u8 0, .int .u8 0, .int .u8 0, .int .u8 0, .int .u8 0, .int .u8 0, .int .u8 0, .int .u8 0, .int .u8 0], 32⟩
theorem ty35 : tyOf Try.prog 35 = some y35 := by kernel_rfl
/-- impl.Header -/
def y37 : Ty := ⟨.stc [(0, 21), (1, 35), (33, 35), (65, 23), (66, 23), (67, 23)], 68, true, .agg #[.int .i32 0, .int .u8 0, .int .u8 0, .int .u8 0, .int .u8 0, .int .u8 0, .int .u8 0, .int .u8 0, .int .u8 0, .int .u8 0, .int .u8 0, .int .u8 0, .int .u8 0, .int .u8 0, .int .u8 0, .int .u8 0, .int .u8 0, .int .u8 0, .int .u8 0, .int .u8 0, .int .u8 0, .int .u8 0, .int .u8 0, .int .u8 0, .int .u8 0, .int .u8 0, .int .u8 0, .int .u8 0, .int .u8 0, .int .u8 0, .int .u8 0, .int .u8 0, .int .u8 0, .int .u8 0, .int .u8 0, .int .u8 0, .int .u8 0, .int .u8 0, .int .u8 0, .int .u8 0, .int .u8 0, .int .u8 0, .int .u8 0, .int .u8 0, .int .u8 0, .int .u8 0, .int .u8 0, .int .u8 0, .int .u8 0, .int .u8 0, .int .u8 0, .int .u8 0, .int .u8 0, .int .u8 0, .int .u8 0, .int .u8 0, .int .u8 0, .int .u8 0, .int .u8 0, .int .u8 0, .int .u8 0, .int .u8 0, .int .u8 0, .int .u8 0, .int .u8 0, .int .u32 0, .int .u32 0, .int .u32 0], 80⟩
theorem ty37 : tyOf Try.prog 37 = some y37 := by kernel_rfl
/-- *chaincfg.Params -/
def y47 : Ty := ⟨.ptr, 1, false, .pointer none, 8⟩
theorem ty47 : tyOf Try.prog 47 = some y47 := by kernel_rfl
/-- impl.rules -/
def y49 : Ty := ⟨.stc [(0, 25), (11, 47)], 12, true, .agg #[.slice none 0 0, .int .u32 0, .int .i64 0, .int .i64 0, .int .i64 0, .bool false, .int .i64 0, .bool false, .int .i32 0, .int .i32 0, .int .i32 0, .pointer none], 96⟩
theorem ty49 : tyOf Try.prog 49 = some y49 := by kernel_rfl
/-- *big.Int -/
def y64 : Ty := ⟨.ptr, 1, false, .pointer none, 8⟩
theorem ty64 : tyOf Try.prog 64 = some y64 := by kernel_rfl
/-- time.Duration -/
def y66 : Ty := ⟨.int .i64, 1, false, .int .i64 0, 8⟩
theorem ty66 : tyOf Try.prog 66 = some y66 := by kernel_rfl
/-- wire.BitcoinNet -/
def y67 : Ty := ⟨.int .u32, 1, false, .int .u32 0, 4⟩
theorem ty67 : tyOf Try.prog 67 = some y67 := by kernel_rfl
/-- []chaincfg.DNSSeed -/
def y68 : Ty := ⟨.slc 131, 1, false, .slice none 0 0, 24⟩
theorem ty68 : tyOf Try.prog 68 = some y68 := by kernel_rfl
/-- *wire.MsgBlock -/
def y69 : Ty := ⟨.ptr, 1, false, .pointer none, 8⟩
theorem ty69 : tyOf Try.prog 69 = some y69 := by kernel_rfl
/-- *chainhash.Hash -/
def y70 : Ty := ⟨.ptr, 1, false, .pointer none, 8⟩
theorem ty70 : tyOf Try.prog 70 = some y70 := by kernel_rfl
/-- uint16 -/
def y71 : Ty := ⟨.int .u16, 1, false, .int .u16 0, 2⟩
theorem ty71 : tyOf Try.prog 71 = some y71 := by kernel_rfl
/-- []chaincfg.Checkpoint -/
def y72 : Ty := ⟨.slc 139, 1, false, .slice none 0 0, 24⟩
theorem ty72 : tyOf Try.prog 72 = some y72 := by kernel_rfl
/-- [4]uint8 -/
def y73 : Ty := ⟨.arr 4 5, 4, true, .agg #[.int .u8 0, .int .u8 0, .int .u8 0, .int .u8 0], 4⟩
theorem ty73 : tyOf Try.prog 73 = some y73 := by kernel_rfl
/-- chaincfg.Params -/
def y75 : Ty := ⟨.stc [(0, 9), (1, 67), (2, 9), (3, 68), (4, 69), (5, 70), (6, 64), (7, 23), (8, 4), (9, 4), (10, 21), (11, 70), (12, 21), (13, 21), (14, 71), (15, 21), (16, 66), (17, 66), (18, 2), (19, 4), (20, 66), (21, 4), (22, 72), (23, 23), (24, 23), (25, 4), (26, 9), (27, 5), (28, 5), (29, 5), (30, 5), (31, 5), (32, 73), (36, 73), (40, 23)], 41, true, .agg #[.string ByteArray.empty, .int .u32 0, .string ByteArray.empty, .slice none 0 0, .pointer none, .pointer none, .pointer none, .int .u32 0, .bool false, .bool false, .int .i32 0, .pointer none, .int .i32 0, .int .i32 0, .int .u16 0, .int .i32 0, .int .i64 0, .int .i64 0, .int .i64 0, .bool false, .int .i64 0, .bool false, .slice none 0 0, .int .u32 0, .int .u32 0, .bool false, .string ByteArray.empty, .int .u8 0, .int .u8 0, .int .u8 0, .int .u8 0, .int .u8 0, .int .u8 0, .int .u8 0, .int .u8 0, .int .u8 0, .int .u8 0, .int .u8 0, .int .u8 0, .int .u8 0, .int .u32 0], 256⟩
theorem ty75 : tyOf Try.prog 75 = some y75 := by kernel_rfl
/-- chaincfg.DNSSeed -/
def y131 : Ty := ⟨.stc [(0, 9), (1, 4)], 2, true, .agg #[.string ByteArray.empty, .bool false], 24⟩
theorem ty131 : tyOf Try.prog 131 = some y131 := by kernel_rfl
/-- chaincfg.Checkpoint -/
def y139 : Ty := ⟨.stc [(0, 21), (1, 70)], 2, true, .agg #[.int .i32 0, .pointer none], 16⟩
theorem ty139 : tyOf Try.prog 139 = some y139 := by kernel_rfl

/-- function 4: pub-mintmark/laws.zzFits11 -/
def tys4 : Nat → Option Ty := fun t => find [(25, y25), (22, y22), (5, y5), (23, y23), (2, y2), (4, y4), (21, y21), (3, y3)] t
theorem ok4 : TysOk Try.prog tys4 := tysOk_of ⟨ty25, ty22, ty5, ty23, ty2, ty4, ty21, ty3, trivial⟩

/-- function 8: pub-mintmark/laws.great -/
def tys8 : Nat → Option Ty := fun t => find [(22, y22), (5, y5), (3, y3)] t
theorem ok8 : TysOk Try.prog tys8 := tysOk_of ⟨ty22, ty5, ty3, trivial⟩

/-- function 13: pub-mintmark/impl.rulesOf -/
def tys13 : Nat → Option Ty := fun t => find [(25, y25), (49, y49), (22, y22), (5, y5), (23, y23), (2, y2), (4, y4), (21, y21), (66, y66), (75, y75), (9, y9), (67, y67), (68, y68), (131, y131), (69, y69), (70, y70), (64, y64), (71, y71), (72, y72), (139, y139), (73, y73), (47, y47)] t
theorem ok13 : TysOk Try.prog tys13 := tysOk_of ⟨ty25, ty49, ty22, ty5, ty23, ty2, ty4, ty21, ty66, ty75, ty9, ty67, ty68, ty131, ty69, ty70, ty64, ty71, ty72, ty139, ty73, ty47, trivial⟩

/-- function 14: pub-mintmark/spec.Window -/
def tys14 : Nat → Option Ty := fun t => find [(25, y25), (22, y22), (5, y5), (23, y23), (2, y2), (4, y4), (21, y21)] t
theorem ok14 : TysOk Try.prog tys14 := tysOk_of ⟨ty25, ty22, ty5, ty23, ty2, ty4, ty21, trivial⟩

/-- function 15: pub-mintmark/spec.earlier -/
def tys15 : Nat → Option Ty := fun t => find [(25, y25), (26, y26), (37, y37), (3, y3), (21, y21), (35, y35), (5, y5), (23, y23), (22, y22), (2, y2), (4, y4)] t
theorem ok15 : TysOk Try.prog tys15 := tysOk_of ⟨ty25, ty26, ty37, ty3, ty21, ty35, ty5, ty23, ty22, ty2, ty4, trivial⟩
end Go.Proofs.Ytekoipmmmoofpaa.Tynm
set_option linter.unusedSimpArgs false
set_option linter.unusedVariables false
namespace Go.Proofs.Ytekoipmmmoofpaa.Co
open Go Go.Se Go.Proofs Go.Proofs.Ytekoipmmmoofpaa.Ht Go.Proofs.Ytekoipmmmoofpaa.Tynm

/-- Rules of the text. -/
abbrev rvs (la : Option Addr) (ln lc : Nat) (lb ts sp fa : Int) (re : Bool) (ra : Int) (fi : Bool) (h34 h66 h65 : Int) : Value :=
  .agg #[.slice la ln lc, .int .u32 lb, .int .i64 ts, .int .i64 sp, .int .i64 fa, .bool re, .int .i64 ra, .bool fi, .int .i32 h34, .int .i32 h66, .int .i32 h65]

theorem windowS {P : Program} (hP : P = Try.prog) (R : RO) (la : Option Addr) (ln lc : Nat) (lb ts sp fa : Int) (re : Bool) (ra : Int) (fi : Bool) (h34 h66 h65 : Int) (hq : Rul lb ts sp fa ra) :
    RetP P 14 [rvs la ln lc lb ts sp fa re ra fi h34 h66 h65] R fun _ r => ∃ w : Int, r = .int .i64 w ∧ w = ts / sp := by
  subst hP
  have h1 := hq.sp0
  have h2 := hq.ts0
  have h3 := hq.ts1
  have h4 := hq.sp1
  refine retP_vc (fz := []) Try.func14 rfl (by decide) rfl ok14 ?_
  intro P bin cmp cnv neg com bnot beq ofN toN at_ sub_ scmp cat sget ssz ssub elem fld_ hP hA
  conv => cbv
  refine ⟨by omega, ?_⟩
  intro ρ R'' _ _ _
  exact ⟨_, rfl, quo_i64 hA (by omega) (by omega) (by omega)⟩

theorem fits11 {P : Program} (hP : P = Try.prog) (R : RO) (la : Option Addr) (ln lc : Nat) (lb ts sp fa : Int) (re : Bool) (ra : Int) (fi : Bool) (h34 h66 h65 : Int) :
    RetP P 4 [rvs la ln lc lb ts sp fa re ra fi h34 h66 h65] R fun _ r => ∃ b : Bool, r = .bool b := by
  subst hP
  refine retP_vc (fz := []) Try.func4 rfl (by decide) rfl ok4 ?_
  intro P bin cmp cnv neg com bnot beq ofN toN at_ sub_ scmp cat sget ssz ssub elem fld_ hP hA
  conv => cbv
  refine br_of (fun h => ?_) (fun h => ?_)
  · conv => cbv
    intro ρ R'' _ _ _
    exact ⟨_, rfl⟩
  · conv => cbv
    intro ρ R'' _ _ _
    exact ⟨_, rfl⟩

theorem greatS {P : Program} (hP : P = Try.prog) (R : RO) (a : Option Addr) (n c : Nat) (xs : List Int) (h : RI R .u8 a n xs) (hc : n ≤ c) :
    RetP P 8 [.slice a n c, .int .i64 32] R fun _ r => ∃ b : Bool, r = .bool b ∧ (b = true → n ≤ 32 ∧ (n ≠ 0 → xs.getD 0 0 ≠ 0)) := by
  subst hP
  refine retP_vc (fz := []) Try.func8 rfl (by decide) rfl ok8 ?_
  intro P bin cmp cnv neg com bnot beq ofN toN at_ sub_ scmp cat sget ssz ssub elem fld_ hP hA
  conv => cbv
  have o := ofN_ hA n
  have hl := h.len
  by_cases h32 : n ≤ 32
  case neg =>
    have c1 : cmp .leq (ofN n) 32 = false := by rw [o, cmp_leq hA]; simp; omega
    simp only [c1]
    conv => cbv
    intro ρ R'' _ _ _
    exact ⟨_, rfl, nofun⟩
  have c1 : cmp .leq (ofN n) 32 = true := by rw [o, cmp_leq hA]; simp; omega
  simp only [c1]
  conv => cbv
  by_cases h0 : n = 0
  · have c2 : cmp .eql (ofN n) 0 = true := by rw [o, h0, cmp_eql hA]; rfl
    simp only [c2]
    conv => cbv
    intro ρ R'' _ _ _
    exact ⟨_, rfl, fun _ => ⟨h32, fun h => absurd h0 h⟩⟩
  have c2 : cmp .eql (ofN n) 0 = false := by rw [o, cmp_eql hA]; exact beq_false_of_ne (by omega)
  simp only [c2]
  conv => cbv
  refine ix_u8 hA h 0 rfl (by omega) ?_
  refine ld_u8 hA h (by omega) (by omega) ?_
  intro d hd _ _
  conv => cbv
  intro ρ R'' _ _ _
  refine ⟨_, rfl, fun hb => ⟨h32, fun _ hz => ?_⟩⟩
  rw [show xs.getD 0 0 = d from hd.symm] at hz
  rw [hz, cmp_neq hA] at hb
  exact absurd hb (by decide)


set_option maxRecDepth 100000 in
set_option maxHeartbeats 2000000 in
theorem earlierS {P : Program} (hP : P = Try.prog) (R : RO) (la : Option Addr) (ln lc : Nat) (lb ts sp fa : Int) (re : Bool) (ra : Int) (fi : Bool) (h34 h66 h65 : Int) (hq : Rul lb ts sp fa ra)
    (a : Option Addr) (n c : Nat) (hs : List GH) (hl : LAt R 68 HAt a n c hs) (hn1 : 1 ≤ n) (hn : n ≤ 80) (w lbn : Nat) (hw : ts / sp = w) (hlb : lb = lbn) (X : Nat) (hX : X = prv w lbn hs (n - 1)) :
    RetP P 15 [rvs la ln lc lb ts sp fa re ra fi h34 h66 h65, .slice a n c] R fun _ r => ∃ x : Int, r = .int .u32 x ∧ x = X := by
  subst hP
  have hln := hl.len
  have hww := hq.w
  refine retP_vc (fz := []) Try.func15 rfl (by decide) rfl ok15 ?_
  intro P bin cmp cnv neg com bnot beq ofN toN at_ sub_ scmp cat sget ssz ssub elem fld_ hP hA
  conv => cbv
  have o := ofN_ hA n
  have hw1 : 1 ≤ w ∧ w ≤ 20 := by omega
  refine ⟨Int, fun x => ⟨[(5, .v (.int .i64 x)), (1, .v (.slice a n c)), (2, .p 0 0)], R, [(0, ⟨25, [.v (.slice la ln lc), .v (.int .u32 lb), .v (.int .i64 ts), .v (.int .i64 sp), .v (.int .i64 fa), .v (.bool re), .v (.int .i64 ra), .v (.bool fi), .v (.int .i32 h34), .v (.int .i32 h66), .v (.int .i32 h65)]⟩)], 1, []⟩,
    fun m x => ∃ j : Nat, x = j ∧ j ≤ n - 1 ∧ m = j ∧ X = prv w lbn hs j,
    ⟨n - 1, bin .sub .i64 (ofN n) 1, ⟨⟨rfl, rfl, rfl, trivial⟩, rfl, ⟨rfl, trivial⟩, rfl, .refl _⟩, n - 1, by rw [o, sub_i64 hA (by omega)]; omega, Nat.le_refl _, rfl, hX⟩, ?_⟩
  rintro m x ⟨j, hj, hjn, hm, hXj⟩
  have hjl : j < hs.length := by omega
  obtain ⟨g, hgg⟩ : ∃ g, hs[j]? = some g := ⟨_, List.getElem?_eq_getElem hjl⟩
  have hbj : bt hs j = g.bits := bt_get hgg
  conv => cbv
  refine ⟨[0, 1, 2, 3, 4, 5, 6, 7, 8, 9, 10, 11, 12, 13, 14, 15, 16, 17, 18], [], mix hP, by kernel_rfl, ?_⟩
  conv => cbv
  by_cases hj0 : j = 0
  · have c1 : cmp .gtr x 0 = false := by rw [hj, hj0, cmp_gtr hA]; rfl
    simp (maxSteps := 10000000) only [c1]
    conv => cbv
    refine ix_at hA hl j hj (by omega) ?_
    refine ld_fld hA hl j hj hgg 66 ?_
    intro cs9 _ hcs9
    obtain ⟨-, ⟨bi9, hb91, hb92⟩, -, -⟩ := hcs9.fld
    refine ⟨_, hb91, ?_⟩
    conv => cbv
    intro ρ R'' _ _ _
    have hXb : X = bt hs j := (by rw [hXj, hj0, prv])
    exact ⟨_, rfl, by rw [hb92, hXb, hbj]⟩
  have c1 : cmp .gtr x 0 = true := by rw [hj, cmp_gtr hA]; simp; omega
  simp (maxSteps := 10000000) only [c1]
  conv => cbv
  refine (windowS hP R la ln lc lb ts sp fa re ra fi h34 h66 h65 hq).callQ rfl ?_
  rintro _ ⟨wv, rfl, hwv⟩
  conv => cbv
  refine ⟨⟨⟨rfl, trivial⟩, .refl _⟩, ?_⟩
  conv => cbv
  refine ⟨by omega, ?_⟩
  conv => cbv
  have er : cmp .neq (bin .rem .i64 x wv) 0 = decide (j % w ≠ 0) := by
    rw [rem_i64 hA (by omega), cmp_neq hA, hj, hwv, hw, ← Int.natCast_emod]
    by_cases h : j % w = 0
    · rw [h]; simp
    · rw [decide_eq_true h]; exact bne_iff_ne.2 (Int.natCast_ne_zero.2 h)
  obtain ⟨i, hi⟩ : ∃ i, j = i + 1 := ⟨j - 1, by omega⟩
  by_cases hjw : j % w = 0
  · rw [decide_eq_false (fun h => h hjw)] at er
    simp (maxSteps := 10000000) only [er]
    conv => cbv
    refine ix_at hA hl j hj (by omega) ?_
    refine ld_fld hA hl j hj hgg 66 ?_
    intro cs9 _ hcs9
    obtain ⟨-, ⟨bi9, hb91, hb92⟩, -, -⟩ := hcs9.fld
    refine ⟨_, hb91, ?_⟩
    conv => cbv
    intro ρ R'' _ _ _
    have hXb : X = bt hs j := (by rw [hXj, hi, prv, if_neg (fun h => h.1 (by rw [← hi]; exact hjw))])
    exact ⟨_, rfl, by rw [hb92, hXb, hbj]⟩
  rw [decide_eq_true hjw] at er
  simp (maxSteps := 10000000) only [er]
  conv => cbv
  refine ix_at hA hl j hj (by omega) ?_
  refine ld_fld hA hl j hj hgg 66 ?_
  intro cs _ hcs
  obtain ⟨-, ⟨bi, hb1, hb2⟩, -, -⟩ := hcs.fld
  refine ⟨_, hb1, ?_⟩
  conv => cbv
  have eb : cmp .eql bi lb = decide (bt hs j = lbn) := by
    rw [cmp_eql hA, hb2, hlb, hbj]
    by_cases h : g.bits = lbn
    · rw [h]; simp
    · rw [decide_eq_false h]; exact beq_false_of_ne fun e => h (Int.ofNat.inj e)
  by_cases hbl : bt hs j = lbn
  case neg =>
    rw [decide_eq_false hbl] at eb
    simp (maxSteps := 10000000) only [eb]
    conv => cbv
    refine ix_at hA hl j hj (by omega) ?_
    refine ld_fld hA hl j hj hgg 66 ?_
    intro cs9 _ hcs9
    obtain ⟨-, ⟨bi9, hb91, hb92⟩, -, -⟩ := hcs9.fld
    refine ⟨_, hb91, ?_⟩
    conv => cbv
    intro ρ R'' _ _ _
    have hXb : X = bt hs j := (by rw [hXj, hi, prv, if_neg (fun h => hbl (by rw [hi]; exact h.2))])
    exact ⟨_, rfl, by rw [hb92, hXb, hbj]⟩
  rw [decide_eq_true hbl] at eb
  simp (maxSteps := 10000000) only [eb]
  conv => cbv
  have hx1 : bin .sub .i64 x 1 = (i : Int) := by rw [hj, sub_i64 hA (by omega), hi]; omega
  exact ⟨i, bin .sub .i64 x 1, by omega, ⟨⟨rfl, rfl, rfl, trivial⟩, rfl, ⟨rfl, trivial⟩, rfl, .refl _⟩, i, hx1, by omega, rfl, by rw [hXj, hi, prv, if_pos ⟨by rw [← hi]; exact hjw, by rw [← hi]; exact hbl⟩]⟩

set_option maxRecDepth 100000 in
set_option maxHeartbeats 2000000 in
theorem rulesOfP {P : Program} (hP : P = Try.prog) (R : RO) (la : Option Addr) (ln lc L : Nat) (xs : List Int) (h : RI R .u8 la ln xs) (hc : ln ≤ lc) (hN : ln ≤ 1000) (hx : xs = (dl L).reverse)
    (lb ts sp fa : Int) (re : Bool) (ra : Int) (fi : Bool) (h34 h66 h65 : Int) (hq : Rul lb ts sp fa ra) :
    RetP P 13 [rvs la ln lc lb ts sp fa re ra fi h34 h66 h65] R fun R' r => ∃ pv plv, RV r ts sp fa pv ∧ PV R' pv plv lb ts ra re fi ∧ IntAt R' plv L := by
  subst hP
  have h1 := hq.sp0
  have h2 := hq.ts0
  have h3 := hq.ts1
  have h4 := hq.sp1
  have h5 := hq.ra0
  have h6 := hq.ra1
  refine retP_vc (fz := []) Try.func13 rfl (by decide) rfl ok13 ?_
  intro P bin cmp cnv neg com bnot beq ofN toN at_ sub_ scmp cat sget ssz ssub elem fld_ hP hA
  conv => cbv
  refine ⟨[0, 1, 2, 4, 5, 6, 7, 8, 9, 10, 11, 12, 13, 14, 15, 16, 17, 18, 19, 20, 21, 22, 23, 24, 25, 26, 3, 27, 28, 29, 30], [30], mix hP, by kernel_rfl, ?_⟩
  conv => cbv
  refine (numberP hP R la ln lc L xs h hc hN hx).callP rfl ?_
  rintro R1 _ hR1 ⟨bp, ap, np, cp, rfl, hpl1, hpl2, hpl3⟩
  conv => cbv
  refine ⟨⟨⟨rfl, rfl, trivial⟩, .refl _⟩, ?_⟩
  conv => cbv
  refine ⟨⟨⟨rfl, rfl, trivial⟩, .refl _⟩, ?_⟩
  conv => cbv
  intro ρ R'' hle hpub _
  have e1 := hpub 2 _ rfl
  have e2 : bin .mul .i64 ts 1000000000 = ts * 1000000000 := mul_i64 hA (by omega)
  have e3 : bin .mul .i64 ra 1000000000 = ra * 1000000000 := mul_i64 hA (by omega)
  exact ⟨_, .pointer (some ⟨bp, 0, none⟩), ⟨la, ln, lc, lb, re, ra, fi, h34, h66, h65, rfl⟩, ⟨_, _, _, _, rfl, CellsAt.blk e1, rfl, rfl, rfl, rfl, rfl, e2, rfl, rfl, e3⟩, bp, ap, np, cp, rfl, hle _ _ hpl1, hpl2.le hle, hpl3⟩
end Go.Proofs.Ytekoipmmmoofpaa.Co
