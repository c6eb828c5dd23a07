/- The bits of an earlier header. -/
import Derived.Test.YtekoipmmmoofpaaNbi
import Derived.Test.YtekoipmmmoofpaaSl
import Derived.Test.YtekoipmmmoofpaaProg
import Derived.KernelRfl
-- merged
/- The types that some functions name, as the evaluator wants them. Printed by a program of my own (seatgen.py). -/
namespace Go.Proofs.Ytekoipmmmoofpaa.Tynk
open Go Go.Se Go.Proofs

/-- int64 -/
def y2 : Ty := ⟨.int .i64, 1, false, .int .i64 0, 8⟩
theorem ty2 : tyOf Try.prog 2 = some y2 := by kernel_rfl
/-- int -/
def y3 : Ty := ⟨.int .i64, 1, false, .int .i64 0, 8⟩
theorem ty3 : tyOf Try.prog 3 = some y3 := by kernel_rfl
/-- bool -/
def y4 : Ty := ⟨.bool, 1, false, .bool false, 1⟩
theorem ty4 : tyOf Try.prog 4 = some y4 := by kernel_rfl
/-- uint8 -/
def y5 : Ty := ⟨.int .u8, 1, false, .int .u8 0, 1⟩
theorem ty5 : tyOf Try.prog 5 = some y5 := by kernel_rfl
/-- string -/
def y9 : Ty := ⟨.str, 1, false, .string ByteArray.empty, 16⟩
theorem ty9 : tyOf Try.prog 9 = some y9 := by kernel_rfl
/-- int32 -/
def y21 : Ty := ⟨.int .i32, 1, false, .int .i32 0, 4⟩
theorem ty21 : tyOf Try.prog 21 = some y21 := by kernel_rfl
/-- []uint8 -/
def y22 : Ty := ⟨.slc 5, 1, false, .slice none 0 0, 24⟩
theorem ty22 : tyOf Try.prog 22 = some y22 := by kernel_rfl
/-- uint32 -/
def y23 : Ty := ⟨.int .u32, 1, false, .int .u32 0, 4⟩
theorem ty23 : tyOf Try.prog 23 = some y23 := by kernel_rfl
/-- impl.Rules -/
def y25 : Ty := ⟨.stc [(0, 22), (1, 23), (2, 2), (3, 2), (4, 2), (5, 4), (6, 2), (7, 4), (8, 21), (9, 21), (10, 21)], 11, true, .agg #[.slice none 0 0, .int .u32 0, .int .i64 0, .int .i64 0, .int .i64 0, .bool false, .int .i64 0, .bool false, .int .i32 0, .int .i32 0, .int .i32 0], 88⟩
theorem ty25 : tyOf Try.prog 25 = some y25 := by kernel_rfl
/-- []impl.Header -/
def y26 : Ty := ⟨.slc 37, 1, false, .slice none 0 0, 24⟩
theorem ty26 : tyOf Try.prog 26 = some y26 := by kernel_rfl
/-- [32]uint8 -/
def y35 : Ty := ⟨.arr 32 5, 32, true, .agg #[.int .u8 0, .int .u8 0, .int .u8 0, .int .u8 0, .int .u8 0, .int .u8 0, .int .u8 0, .int .u8 0, .int .u8 0, .int .u8 0, .int .u8 0, .int .u8 0, .int .u8 0, .int .u8 0, .int .u8 0, .int .u8 0, .int .u8 0, .int .u8 0, .int .u8 0, .int .u8 0, .int .u8 0, .int .u8 0, .int .u8 0, .int .u8 0, .int .u8 0, .int .u8 0, .int .u8 0, .int .u8 0, .int .u8 0, .int .u8 0, .int .u8 0, .int .u8 0], 32⟩
theorem ty35 : tyOf Try.prog 35 = some y35 := by kernel_rfl
/-- impl.Header -/
def y37 : Ty := ⟨.stc [(0, 21), (1, 35), (33, 35), (65, 23), (66, 23), (67, 23)], 68, true, .agg #[.int .i32 0, .int .u8 0, .int .u8 0, .int .u8 0, .int .u8 0, .int .u8 0, .int .u8 0, .int .u8 0, .int .u8 0, .int .u8 0, .int .u8 0, .int .u8 0, .int .u8 0, .int .u8 0, .int .u8 0, .int .u8 0, .int .u8 0, .int .u8 0, .int .u8 0, .int .u8 0, .int .u8 0, .int .u8 0, .int .u8 0, .int .u8 0, .int .u8 0, .int .u8 0, .int .u8 0, .int .u8 0, .int .u8 0, .int .u8 0, .int .u8 0, .int .u8 0, .int .u8 0, .int .u8 0, .int .u8 0, .int .u8 0, .int .u8 0, .int .u8 0, .int .u8 0, .int .u8 0, .int .u8 0, .int .u8 0, .int .u8 0, .int .u8 0, .int .u8 0, .int .u8 0, .int .u8 0, .int .u8 0, .int .u8 0, .int .u8 0, .int .u8 0, .int .u8 0, .int .u8 0, .int .u8 0, .int .u8 0, .int .u8 0, .int .u8 0, .int .u8 0, .int .u8 0, .int .u8 0, .int .u8 0, .int .u8 0, .int .u8 0, .int .u8 0, .int .u8 0, .int .u32 0, .int .u32 0, .int .u32 0], 80⟩
theorem ty37 : tyOf Try.prog 37 = some y37 := by kernel_rfl
/-- impl.node -/
def y43 : Ty := ⟨.stc [(0, 26), (1, 3)], 2, true, .agg #[.slice none 0 0, .int .i64 0], 32⟩
theorem ty43 : tyOf Try.prog 43 = some y43 := by kernel_rfl
/-- *chaincfg.Params -/
def y47 : Ty := ⟨.ptr, 1, false, .pointer none, 8⟩
theorem ty47 : tyOf Try.prog 47 = some y47 := by kernel_rfl
/-- impl.rules -/
def y49 : Ty := ⟨.stc [(0, 25), (11, 47)], 12, true, .agg #[.slice none 0 0, .int .u32 0, .int .i64 0, .int .i64 0, .int .i64 0, .bool false, .int .i64 0, .bool false, .int .i32 0, .int .i32 0, .int .i32 0, .pointer none], 96⟩
theorem ty49 : tyOf Try.prog 49 = some y49 := by kernel_rfl
/-- blockchain.HeaderCtx -/
def y61 : Ty := ⟨.ifc, 1, false, .nilIface, 16⟩
theorem ty61 : tyOf Try.prog 61 = some y61 := by kernel_rfl
/-- *big.Int -/
def y64 : Ty := ⟨.ptr, 1, false, .pointer none, 8⟩
theorem ty64 : tyOf Try.prog 64 = some y64 := by kernel_rfl
/-- time.Duration -/
def y66 : Ty := ⟨.int .i64, 1, false, .int .i64 0, 8⟩
theorem ty66 : tyOf Try.prog 66 = some y66 := by kernel_rfl
/-- wire.BitcoinNet -/
def y67 : Ty := ⟨.int .u32, 1, false, .int .u32 0, 4⟩
theorem ty67 : tyOf Try.prog 67 = some y67 := by kernel_rfl
/-- []chaincfg.DNSSeed -/
def y68 : Ty := ⟨.slc 131, 1, false, .slice none 0 0, 24⟩
theorem ty68 : tyOf Try.prog 68 = some y68 := by kernel_rfl
/-- *wire.MsgBlock -/
def y69 : Ty := ⟨.ptr, 1, false, .pointer none, 8⟩
theorem ty69 : tyOf Try.prog 69 = some y69 := by kernel_rfl
/-- *chainhash.Hash -/
def y70 : Ty := ⟨.ptr, 1, false, .pointer none, 8⟩
theorem ty70 : tyOf Try.prog 70 = some y70 := by kernel_rfl
/-- uint16 -/
def y71 : Ty := ⟨.int .u16, 1, false, .int .u16 0, 2⟩
theorem ty71 : tyOf Try.prog 71 = some y71 := by kernel_rfl
/-- []chaincfg.Checkpoint -/
def y72 : Ty := ⟨.slc 139, 1, false, .slice none 0 0, 24⟩
theorem ty72 : tyOf Try.prog 72 = some y72 := by kernel_rfl
/-- [4]uint8 -/
def y73 : Ty := ⟨.arr 4 5, 4, true, .agg #[.int .u8 0, .int .u8 0, .int .u8 0, .int .u8 0], 4⟩
theorem ty73 : tyOf Try.prog 73 = some y73 := by kernel_rfl
/-- chaincfg.Params -/
def y75 : Ty := ⟨.stc [(0, 9), (1, 67), (2, 9), (3, 68), (4, 69), (5, 70), (6, 64), (7, 23), (8, 4), (9, 4), (10, 21), (11, 70), (12, 21), (13, 21), (14, 71), (15, 21), (16, 66), (17, 66), (18, 2), (19, 4), (20, 66), (21, 4), (22, 72), (23, 23), (24, 23), (25, 4), (26, 9), (27, 5), (28, 5), (29, 5), (30, 5), (31, 5), (32, 73), (36, 73), (40, 23)], 41, true, .agg #[.string ByteArray.empty, .int .u32 0, .string ByteArray.empty, .slice none 0 0, .pointer none, .pointer none, .pointer none, .int .u32 0, .bool false, .bool false, .int .i32 0, .pointer none, .int .i32 0, .int .i32 0, .int .u16 0, .int .i32 0, .int .i64 0, .int .i64 0, .int .i64 0, .bool false, .int .i64 0, .bool false, .slice none 0 0, .int .u32 0, .int .u32 0, .bool false, .string ByteArray.empty, .int .u8 0, .int .u8 0, .int .u8 0, .int .u8 0, .int .u8 0, .int .u8 0, .int .u8 0, .int .u8 0, .int .u8 0, .int .u8 0, .int .u8 0, .int .u8 0, .int .u8 0, .int .u32 0], 256⟩
theorem ty75 : tyOf Try.prog 75 = some y75 := by kernel_rfl
/-- chaincfg.DNSSeed -/
def y131 : Ty := ⟨.stc [(0, 9), (1, 4)], 2, true, .agg #[.string ByteArray.empty, .bool false], 24⟩
theorem ty131 : tyOf Try.prog 131 = some y131 := by kernel_rfl
/-- chaincfg.Checkpoint -/
def y139 : Ty := ⟨.stc [(0, 21), (1, 70)], 2, true, .agg #[.int .i32 0, .pointer none], 16⟩
theorem ty139 : tyOf Try.prog 139 = some y139 := by kernel_rfl

/-- function 23: pub-mintmark/pub/btcd/blockchain.findPrevTestNetDifficulty -/
def tys23 : Nat → Option Ty := fun t => find [(61, y61), (21, y21), (75, y75), (9, y9), (67, y67), (68, y68), (131, y131), (69, y69), (70, y70), (64, y64), (23, y23), (4, y4), (71, y71), (66, y66), (2, y2), (72, y72), (139, y139), (5, y5), (73, y73)] t
theorem ok23 : TysOk Try.prog tys23 := tysOk_of ⟨ty61, ty21, ty75, ty9, ty67, ty68, ty131, ty69, ty70, ty64, ty23, ty4, ty71, ty66, ty2, ty72, ty139, ty5, ty73, trivial⟩

/-- function 75: (pub-mintmark/impl.node).Bits -/
def tys75 : Nat → Option Ty := fun t => find [(43, y43), (26, y26), (37, y37), (3, y3), (21, y21), (35, y35), (5, y5), (23, y23)] t
theorem ok75 : TysOk Try.prog tys75 := tysOk_of ⟨ty43, ty26, ty37, ty3, ty21, ty35, ty5, ty23, trivial⟩

/-- function 76: (pub-mintmark/impl.node).Height -/
def tys76 : Nat → Option Ty := fun t => find [(43, y43), (26, y26), (37, y37), (3, y3), (21, y21)] t
theorem ok76 : TysOk Try.prog tys76 := tysOk_of ⟨ty43, ty26, ty37, ty3, ty21, trivial⟩

/-- function 77: (pub-mintmark/impl.node).Parent -/
def tys77 : Nat → Option Ty := fun t => find [(43, y43)] t
theorem ok77 : TysOk Try.prog tys77 := tysOk_of ⟨ty43, trivial⟩

/-- function 80: (pub-mintmark/impl.rules).BlocksPerRetarget -/
def tys80 : Nat → Option Ty := fun t => find [(49, y49), (25, y25), (47, y47), (22, y22), (5, y5), (23, y23), (2, y2), (4, y4), (21, y21)] t
theorem ok80 : TysOk Try.prog tys80 := tysOk_of ⟨ty49, ty25, ty47, ty22, ty5, ty23, ty2, ty4, ty21, trivial⟩

/-- function 81: (pub-mintmark/impl.rules).ChainParams -/
def tys81 : Nat → Option Ty := fun t => find [(49, y49), (25, y25), (47, y47)] t
theorem ok81 : TysOk Try.prog tys81 := tysOk_of ⟨ty49, ty25, ty47, trivial⟩
end Go.Proofs.Ytekoipmmmoofpaa.Tynk
set_option linter.unusedSimpArgs false
set_option linter.unusedVariables false
namespace Go.Proofs.Ytekoipmmmoofpaa.Co
open Go Go.Se Go.Proofs Go.Proofs.Ytekoipmmmoofpaa.Ht Go.Proofs.Ytekoipmmmoofpaa.Tynk

def bt (hs : List GH) (i : Nat) : Nat := match hs[i]? with
  | some g => g.bits
  | none => 0

theorem bt_get {hs : List GH} {i : Nat} {g : GH} (h : hs[i]? = some g) : bt hs i = g.bits := by rw [bt, h]

/-- The bits of the latest header that has others than the greatest, or begins a window. -/
def prv (w : Nat) (lb : Nat) (hs : List GH) : Nat → Nat
  | 0 => bt hs 0
  | i + 1 => if (i + 1) % w ≠ 0 ∧ bt hs (i + 1) = lb then prv w lb hs i else bt hs (i + 1)

/-- The package's parameters behind a pointer. -/
def PV (R : RO) (pv plv : Value) (lb ts ra : Int) (re fi : Bool) : Prop := ∃ (ad : Addr) (cs : List Value) (ts9 ra9 : Int), pv = .pointer (some ad) ∧ CellsAt R ad cs ∧ cs[6]? = some plv ∧ cs[7]? = some (.int .u32 lb) ∧ cs[8]? = some (.bool false) ∧ cs[9]? = some (.bool fi) ∧
  cs[16]? = some (.int .i64 ts9) ∧ ts9 = ts * 1000000000 ∧ cs[19]? = some (.bool re) ∧ cs[20]? = some (.int .i64 ra9) ∧ ra9 = ra * 1000000000

theorem PV.le {R R' : RO} {pv plv : Value} {lb ts ra : Int} {re fi : Bool} (h : PV R pv plv lb ts ra re fi) (hl : R.le R') : PV R' pv plv lb ts ra re fi :=
  let ⟨ad, cs, ts9, ra9, h1, h2, h3⟩ := h
  ⟨ad, cs, ts9, ra9, h1, h2.le hl, h3⟩

theorem mHeight {P : Program} (hP : P = Try.prog) : Meth P 43 "Height" 76 := by subst hP; exact meth_val (by kernel_rfl) ⟨_, Try.underlying43⟩
theorem mBits {P : Program} (hP : P = Try.prog) : Meth P 43 "Bits" 75 := by subst hP; exact meth_val (by kernel_rfl) ⟨_, Try.underlying43⟩
theorem mTime {P : Program} (hP : P = Try.prog) : Meth P 43 "Timestamp" 79 := by subst hP; exact meth_val (by kernel_rfl) ⟨_, Try.underlying43⟩
theorem mParent {P : Program} (hP : P = Try.prog) : Meth P 43 "Parent" 77 := by subst hP; exact meth_val (by kernel_rfl) ⟨_, Try.underlying43⟩
theorem mRel {P : Program} (hP : P = Try.prog) : Meth P 43 "RelativeAncestorCtx" 78 := by subst hP; exact meth_val (by kernel_rfl) ⟨_, Try.underlying43⟩
theorem mParams {P : Program} (hP : P = Try.prog) : Meth P 49 "ChainParams" 81 := by subst hP; exact meth_val (by kernel_rfl) ⟨_, Try.underlying49⟩
theorem mWindow {P : Program} (hP : P = Try.prog) : Meth P 49 "BlocksPerRetarget" 80 := by subst hP; exact meth_val (by kernel_rfl) ⟨_, Try.underlying49⟩
theorem mMin {P : Program} (hP : P = Try.prog) : Meth P 49 "MinRetargetTimespan" 83 := by subst hP; exact meth_val (by kernel_rfl) ⟨_, Try.underlying49⟩
theorem mMax {P : Program} (hP : P = Try.prog) : Meth P 49 "MaxRetargetTimespan" 82 := by subst hP; exact meth_val (by kernel_rfl) ⟨_, Try.underlying49⟩



structure Lf where
  nv : Value

set_option maxRecDepth 100000 in
set_option maxHeartbeats 2000000 in
theorem findPrevP {P : Program} (hP : P = Try.prog) (R : RO) (rv pv plv nv : Value) (lb ts sp fa ra : Int) (re fi : Bool) (hr : RV rv ts sp fa pv) (hp : PV R pv plv lb ts ra re fi) (hq : Rul lb ts sp fa ra)
    (a : Option Addr) (n c at0 : Nat) (hnv : NV nv a n c at0) (ha : at0 ≤ 80) (hs : List GH) (hl : LAt R 68 HAt a n c hs) (hlt : at0 < n) (w lbn : Nat) (hw : ts / sp = w) (hlb : lb = lbn) (X : Nat) (hX : X = prv w lbn hs at0) :
    RetP P 23 [.iface 43 nv, .iface 49 rv] R fun _ r => ∃ x : Int, r = .int .u32 x ∧ x = X := by
  subst hP
  have hln := hl.len
  have hww := hq.w
  have hp0 := hp
  obtain ⟨ad, pcs, ts9, ra9, rfl, hp1, hp6, hp7, -⟩ := hp
  refine retP_vc (fz := []) Try.func23 rfl (by decide) rfl ok23 ?_
  intro P bin cmp cnv neg com bnot beq ofN toN at_ sub_ scmp cat sget ssz ssub elem fld_ hP hA
  conv => cbv
  have nf : bnot false = true := by rw [bnot_ hA]; rfl
  refine ⟨Lf, fun x => ⟨[(5, .v (.iface 43 x.nv)), (1, .v (.iface 49 rv))], R, [], 0, []⟩, fun k x => ∃ j : Nat, NV x.nv a n c j ∧ j ≤ at0 ∧ k = j ∧ X = prv w lbn hs j,
    ⟨at0, ⟨nv⟩, ⟨⟨rfl, rfl, trivial⟩, rfl, trivial, rfl, .refl _⟩, at0, hnv, Nat.le_refl _, rfl, hX⟩, ?_⟩
  rintro k ⟨nv1⟩ ⟨j, hn1, hj, hk, hXj⟩
  simp only at hn1
  conv => cbv
  simp (maxSteps := 10000000) only [nf]
  conv => cbv
  refine gen_invoke (T := 43) (f := 76) (x := .v (nv1)) (vs := []) rfl rfl rfl rfl rfl (mHeight hP) ?_
  refine (heightP hP R nv1 a n c j hn1 (by omega)).callQ rfl ?_
  rintro _ ⟨hv, rfl, hhv⟩
  conv => cbv
  refine gen_invoke (T := 49) (f := 80) (x := .v (rv)) (vs := []) rfl rfl rfl rfl rfl (mWindow hP) ?_
  refine (windowP hP R rv lb ts sp fa ra _ hr hq).callQ rfl ?_
  rintro _ ⟨wv, rfl, hwv⟩
  conv => cbv
  refine ⟨by omega, ?_⟩
  have hjl : j < hs.length := by omega
  obtain ⟨g, hg⟩ : ∃ g, hs[j]? = some g := ⟨_, List.getElem?_eq_getElem hjl⟩
  have hbj : bt hs j = g.bits := bt_get hg
  have hw1 : 1 ≤ w := by omega
  have er : cmp .neq (bin .rem .i32 hv wv) 0 = decide (j % w ≠ 0) := by
    rw [rem_i32 hA (by omega), cmp_neq hA, hhv, hwv, hw, ← Int.natCast_emod]
    by_cases h : j % w = 0
    · rw [h]; simp
    · rw [decide_eq_true h]; exact bne_iff_ne.2 (Int.natCast_ne_zero.2 h)
  have fin : X = bt hs j → ∀ (b : Int), b = g.bits → b = (X : Int) := fun h b hb => by rw [hb, h, hbj]
  by_cases hjw : j % w = 0
  · rw [decide_eq_false (fun h => h hjw)] at er
    simp (maxSteps := 10000000) only [er]
    conv => cbv
    have hX0 : X = bt hs j := by
      rw [hXj]
      cases j with
      | zero => rfl
      | succ j => rw [prv, if_neg (fun h => h.1 hjw)]
    refine gen_invoke (T := 49) (f := 81) (x := .v (rv)) (vs := []) rfl rfl rfl rfl rfl (mParams hP) ?_
    refine (chainParamsP hP R rv ts sp fa _ hr).callQ rfl ?_
    rintro _ rfl
    conv => cbv
    refine ld_at hA hp1 7 hp7 ?_
    conv => cbv
    simp (maxSteps := 10000000) only [nf]
    conv => cbv
    refine gen_invoke (T := 43) (f := 75) (x := .v (nv1)) (vs := []) rfl rfl rfl rfl rfl (mBits hP) ?_
    refine (bitsP hP R nv1 a n c j hn1 hs hl g hg).callQ rfl ?_
    rintro _ ⟨bv, rfl, hbv⟩
    conv => cbv
    intro ρ R'' _ _ _
    exact ⟨_, rfl, fin hX0 _ hbv⟩
  rw [decide_eq_true hjw] at er
  simp (maxSteps := 10000000) only [er]
  conv => cbv
  refine gen_invoke (T := 43) (f := 75) (x := .v (nv1)) (vs := []) rfl rfl rfl rfl rfl (mBits hP) ?_
  refine (bitsP hP R nv1 a n c j hn1 hs hl g hg).callQ rfl ?_
  rintro _ ⟨bv, rfl, hbv⟩
  conv => cbv
  refine gen_invoke (T := 49) (f := 81) (x := .v (rv)) (vs := []) rfl rfl rfl rfl rfl (mParams hP) ?_
  refine (chainParamsP hP R rv ts sp fa _ hr).callQ rfl ?_
  rintro _ rfl
  conv => cbv
  refine ld_at hA hp1 7 hp7 ?_
  conv => cbv
  have eb : cmp .eql bv lb = decide (bt hs j = lbn) := by
    rw [cmp_eql hA, hbv, hlb, hbj]
    by_cases h : g.bits = lbn
    · rw [h]; simp
    · rw [decide_eq_false h]; exact beq_false_of_ne fun e => h (Int.ofNat.inj e)
  by_cases hbl : bt hs j = lbn
  · rw [decide_eq_true hbl] at eb
    simp (maxSteps := 10000000) only [eb]
    conv => cbv
    have hj1 : 1 ≤ j := by
      rcases Nat.eq_zero_or_pos j with h | h
      · exact absurd (by rw [h, Nat.zero_mod]) hjw
      · exact h
    refine gen_invoke (T := 43) (f := 77) (x := .v (nv1)) (vs := []) rfl rfl rfl rfl rfl (mParent hP) ?_
    refine (parentP hP R nv1 a n c j hn1 (by omega) hj1).callQ rfl ?_
    rintro _ ⟨nv2, rfl, hn2⟩
    conv => cbv
    have hX1 : X = prv w lbn hs (j - 1) := by
      obtain ⟨i, rfl⟩ : ∃ i, j = i + 1 := ⟨j - 1, by omega⟩
      rw [hXj, prv, if_pos ⟨hjw, hbl⟩]
      rfl
    exact ⟨j - 1, ⟨nv2⟩, by omega, ⟨⟨rfl, rfl, trivial⟩, rfl, trivial, rfl, .refl _⟩, j - 1, hn2, by omega, rfl, hX1⟩
  rw [decide_eq_false hbl] at eb
  simp (maxSteps := 10000000) only [eb]
  conv => cbv
  have hX0 : X = bt hs j := by
    rw [hXj]
    cases j with
    | zero => rfl
    | succ j => rw [prv, if_neg (fun h => hbl h.2)]
  refine gen_invoke (T := 49) (f := 81) (x := .v (rv)) (vs := []) rfl rfl rfl rfl rfl (mParams hP) ?_
  refine (chainParamsP hP R rv ts sp fa _ hr).callQ rfl ?_
  rintro _ rfl
  conv => cbv
  refine ld_at hA hp1 7 hp7 ?_
  conv => cbv
  simp (maxSteps := 10000000) only [nf]
  conv => cbv
  refine gen_invoke (T := 43) (f := 75) (x := .v (nv1)) (vs := []) rfl rfl rfl rfl rfl (mBits hP) ?_
  refine (bitsP hP R nv1 a n c j hn1 hs hl g hg).callQ rfl ?_
  rintro _ ⟨bv, rfl, hbv⟩
  conv => cbv
  intro ρ R'' _ _ _
  exact ⟨_, rfl, fin hX0 _ hbv⟩
end Go.Proofs.Ytekoipmmmoofpaa.Co
