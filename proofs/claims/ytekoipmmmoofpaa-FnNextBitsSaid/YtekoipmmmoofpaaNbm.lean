/- The bits that a header behind a chain must have, by the package. -/
import Derived.Test.YtekoipmmmoofpaaNbk
import Derived.Test.YtekoipmmmoofpaaCoe
import Derived.Test.YtekoipmmmoofpaaNbp
import Derived.Test.YtekoipmmmoofpaaSl
import Derived.Test.YtekoipmmmoofpaaProg
import Derived.KernelRfl
-- merged
/- The types that some functions name, as the evaluator wants them. Printed by a program of my own (seatgen.py). -/
namespace Go.Proofs.Ytekoipmmmoofpaa.Tynn
open Go Go.Se Go.Proofs

/-- int64 -/
def y2 : Ty := ⟨.int .i64, 1, false, .int .i64 0, 8⟩
theorem ty2 : tyOf Try.prog 2 = some y2 := by kernel_rfl
/-- int -/
def y3 : Ty := ⟨.int .i64, 1, false, .int .i64 0, 8⟩
theorem ty3 : tyOf Try.prog 3 = some y3 := by kernel_rfl
/-- bool -/
def y4 : Ty := ⟨.bool, 1, false, .bool false, 1⟩
theorem ty4 : tyOf Try.prog 4 = some y4 := by kernel_rfl
/-- uint8 -/
def y5 : Ty := ⟨.int .u8, 1, false, .int .u8 0, 1⟩
theorem ty5 : tyOf Try.prog 5 = some y5 := by kernel_rfl
/-- string -/
def y9 : Ty := ⟨.str, 1, false, .string ByteArray.empty, 16⟩
theorem ty9 : tyOf Try.prog 9 = some y9 := by kernel_rfl
/-- int32 -/
def y21 : Ty := ⟨.int .i32, 1, false, .int .i32 0, 4⟩
theorem ty21 : tyOf Try.prog 21 = some y21 := by kernel_rfl
/-- []uint8 -/
def y22 : Ty := ⟨.slc 5, 1, false, .slice none 0 0, 24⟩
theorem ty22 : tyOf Try.prog 22 = some y22 := by kernel_rfl
/-- uint32 -/
def y23 : Ty := ⟨.int .u32, 1, false, .int .u32 0, 4⟩
theorem ty23 : tyOf Try.prog 23 = some y23 := by kernel_rfl
/-- impl.Rules -/
def y25 : Ty := ⟨.stc [(0, 22), (1, 23), (2, 2), (3, 2), (4, 2), (5, 4), (6, 2), (7, 4), (8, 21), (9, 21), (10, 21)], 11, true, .agg #[.slice none 0 0, .int .u32 0, .int .i64 0, .int .i64 0, .int .i64 0, .bool false, .int .i64 0, .bool false, .int .i32 0, .int .i32 0, .int .i32 0], 88⟩
theorem ty25 : tyOf Try.prog 25 = some y25 := by kernel_rfl
/-- []impl.Header -/
def y26 : Ty := ⟨.slc 37, 1, false, .slice none 0 0, 24⟩
theorem ty26 : tyOf Try.prog 26 = some y26 := by kernel_rfl
/-- [32]uint8 -/
def y35 : Ty := ⟨.arr 32 5, 32, true, .agg #[.int .u8 0, .int .u8 0, .int .u8 0, .int .u8 0, .int .u8 0, .int .u8 0, .int .u8 0, .int .u8 0, .int .u8 0, .int .u8 0, .int .u8 0, .int .u8 0, .int .u8 0, .int .u8 0, .int .u8 0, .int .u8 0, .int .u8 0, .int .u8 0, .int .u8 0, .int .u8 0, .int .u8 0, .int .u8 0, .int .u8 0, .int .u8 0, .int .u8 0, .int .u8 0, .int .u8 0, .int .u8 0, .int .u8 0, .int .u8 0, .int .u8 0, .int .u8 0], 32⟩
theorem ty35 : tyOf Try.prog 35 = some y35 := by kernel_rfl
/-- impl.Header -/
def y37 : Ty := ⟨.stc [(0, 21), (1, 35), (33, 35), (65, 23), (66, 23), (67, 23)], 68, true, .agg #[.int .i32 0, .int .u8 0, .int .u8 0, .int .u8 0, .int .u8 0, .int .u8 0, .int .u8 0, .int .u8 0, .int .u8 0, .int .u8 0, .int .u8 0, .int .u8 0, .int .u8 0, .int .u8 0, .int .u8 0, .int .u8 0, .int .u8 0, .int .u8 0, .int .u8 0, .int .u8 0, .int .u8 0, .int .u8 0, .int .u8 0, .int .u8 0, .int .u8 0, .int .u8 0, .int .u8 0, .int .u8 0, .int .u8 0, .int .u8 0, .int .u8 0, .int .u8 0, .int .u8 0, .int .u8 0, .int .u8 0, .int .u8 0, .int .u8 0, .int .u8 0, .int .u8 0, .int .u8 0, .int .u8 0, .int .u8 0, .int .u8 0, .int .u8 0, .int .u8 0, .int .u8 0, .int .u8 0, .int .u8 0, .int .u8 0, .int .u8 0, .int .u8 0, .int .u8 0, .int .u8 0, .int .u8 0, .int .u8 0, .int .u8 0, .int .u8 0, .int .u8 0, .int .u8 0, .int .u8 0, .int .u8 0, .int .u8 0, .int .u8 0, .int .u8 0, .int .u8 0, .int .u32 0, .int .u32 0, .int .u32 0], 80⟩
theorem ty37 : tyOf Try.prog 37 = some y37 := by kernel_rfl
/-- impl.node -/
def y43 : Ty := ⟨.stc [(0, 26), (1, 3)], 2, true, .agg #[.slice none 0 0, .int .i64 0], 32⟩
theorem ty43 : tyOf Try.prog 43 = some y43 := by kernel_rfl
/-- time.Time -/
def y45 : Ty := ⟨.stc [(0, 2)], 1, true, .agg #[.int .i64 0], 8⟩
theorem ty45 : tyOf Try.prog 45 = some y45 := by kernel_rfl
/-- *chaincfg.Params -/
def y47 : Ty := ⟨.ptr, 1, false, .pointer none, 8⟩
theorem ty47 : tyOf Try.prog 47 = some y47 := by kernel_rfl
/-- impl.rules -/
def y49 : Ty := ⟨.stc [(0, 25), (11, 47)], 12, true, .agg #[.slice none 0 0, .int .u32 0, .int .i64 0, .int .i64 0, .int .i64 0, .bool false, .int .i64 0, .bool false, .int .i32 0, .int .i32 0, .int .i32 0, .pointer none], 96⟩
theorem ty49 : tyOf Try.prog 49 = some y49 := by kernel_rfl
/-- blockchain.HeaderCtx -/
def y61 : Ty := ⟨.ifc, 1, false, .nilIface, 16⟩
theorem ty61 : tyOf Try.prog 61 = some y61 := by kernel_rfl
/-- *big.Int -/
def y64 : Ty := ⟨.ptr, 1, false, .pointer none, 8⟩
theorem ty64 : tyOf Try.prog 64 = some y64 := by kernel_rfl
/-- time.Duration -/
def y66 : Ty := ⟨.int .i64, 1, false, .int .i64 0, 8⟩
theorem ty66 : tyOf Try.prog 66 = some y66 := by kernel_rfl
/-- wire.BitcoinNet -/
def y67 : Ty := ⟨.int .u32, 1, false, .int .u32 0, 4⟩
theorem ty67 : tyOf Try.prog 67 = some y67 := by kernel_rfl
/-- []chaincfg.DNSSeed -/
def y68 : Ty := ⟨.slc 131, 1, false, .slice none 0 0, 24⟩
theorem ty68 : tyOf Try.prog 68 = some y68 := by kernel_rfl
/-- *wire.MsgBlock -/
def y69 : Ty := ⟨.ptr, 1, false, .pointer none, 8⟩
theorem ty69 : tyOf Try.prog 69 = some y69 := by kernel_rfl
/-- *chainhash.Hash -/
def y70 : Ty := ⟨.ptr, 1, false, .pointer none, 8⟩
theorem ty70 : tyOf Try.prog 70 = some y70 := by kernel_rfl
/-- uint16 -/
def y71 : Ty := ⟨.int .u16, 1, false, .int .u16 0, 2⟩
theorem ty71 : tyOf Try.prog 71 = some y71 := by kernel_rfl
/-- []chaincfg.Checkpoint -/
def y72 : Ty := ⟨.slc 139, 1, false, .slice none 0 0, 24⟩
theorem ty72 : tyOf Try.prog 72 = some y72 := by kernel_rfl
/-- [4]uint8 -/
def y73 : Ty := ⟨.arr 4 5, 4, true, .agg #[.int .u8 0, .int .u8 0, .int .u8 0, .int .u8 0], 4⟩
theorem ty73 : tyOf Try.prog 73 = some y73 := by kernel_rfl
/-- chaincfg.Params -/
def y75 : Ty := ⟨.stc [(0, 9), (1, 67), (2, 9), (3, 68), (4, 69), (5, 70), (6, 64), (7, 23), (8, 4), (9, 4), (10, 21), (11, 70), (12, 21), (13, 21), (14, 71), (15, 21), (16, 66), (17, 66), (18, 2), (19, 4), (20, 66), (21, 4), (22, 72), (23, 23), (24, 23), (25, 4), (26, 9), (27, 5), (28, 5), (29, 5), (30, 5), (31, 5), (32, 73), (36, 73), (40, 23)], 41, true, .agg #[.string ByteArray.empty, .int .u32 0, .string ByteArray.empty, .slice none 0 0, .pointer none, .pointer none, .pointer none, .int .u32 0, .bool false, .bool false, .int .i32 0, .pointer none, .int .i32 0, .int .i32 0, .int .u16 0, .int .i32 0, .int .i64 0, .int .i64 0, .int .i64 0, .bool false, .int .i64 0, .bool false, .slice none 0 0, .int .u32 0, .int .u32 0, .bool false, .string ByteArray.empty, .int .u8 0, .int .u8 0, .int .u8 0, .int .u8 0, .int .u8 0, .int .u8 0, .int .u8 0, .int .u8 0, .int .u8 0, .int .u8 0, .int .u8 0, .int .u8 0, .int .u8 0, .int .u32 0], 256⟩
theorem ty75 : tyOf Try.prog 75 = some y75 := by kernel_rfl
/-- blockchain.AssertError -/
def y82 : Ty := ⟨.str, 1, false, .string ByteArray.empty, 16⟩
theorem ty82 : tyOf Try.prog 82 = some y82 := by kernel_rfl
/-- big.Int -/
def y87 : Ty := ⟨.stc [(0, 4), (1, 85)], 2, true, .agg #[.bool false, .slice none 0 0], 32⟩
theorem ty87 : tyOf Try.prog 87 = some y87 := by kernel_rfl
/-- chaincfg.DNSSeed -/
def y131 : Ty := ⟨.stc [(0, 9), (1, 4)], 2, true, .agg #[.string ByteArray.empty, .bool false], 24⟩
theorem ty131 : tyOf Try.prog 131 = some y131 := by kernel_rfl
/-- chaincfg.Checkpoint -/
def y139 : Ty := ⟨.stc [(0, 21), (1, 70)], 2, true, .agg #[.int .i32 0, .pointer none], 16⟩
theorem ty139 : tyOf Try.prog 139 = some y139 := by kernel_rfl

/-- function 12: pub-mintmark/pub/given/time.Unix -/
def tys12 : Nat → Option Ty := fun t => find [(45, y45), (2, y2)] t
theorem ok12 : TysOk Try.prog tys12 := tysOk_of ⟨ty45, ty2, trivial⟩

/-- function 20: pub-mintmark/pub/btcd/blockchain.calcNextRequiredDifficulty -/
def tys20 : Nat → Option Ty := fun t => find [(45, y45), (75, y75), (9, y9), (67, y67), (68, y68), (131, y131), (69, y69), (70, y70), (64, y64), (23, y23), (4, y4), (21, y21), (71, y71), (66, y66), (2, y2), (72, y72), (139, y139), (5, y5), (73, y73), (61, y61), (82, y82), (87, y87), (3, y3)] t
theorem ok20 : TysOk Try.prog tys20 := tysOk_of ⟨ty45, ty75, ty9, ty67, ty68, ty131, ty69, ty70, ty64, ty23, ty4, ty21, ty71, ty66, ty2, ty72, ty139, ty5, ty73, ty61, ty82, ty87, ty3, trivial⟩

/-- function 22: (pub-mintmark/pub/given/time.Time).Unix -/
def tys22 : Nat → Option Ty := fun t => find [(45, y45), (2, y2)] t
theorem ok22 : TysOk Try.prog tys22 := tysOk_of ⟨ty45, ty2, trivial⟩

/-- function 30: pub-mintmark/pub/btcd/blockchain.BigToCompact -/
def tys30 : Nat → Option Ty := fun t => find [] t
theorem ok30 : TysOk Try.prog tys30 := tysOk_of trivial

/-- function 75: (pub-mintmark/impl.node).Bits -/
def tys75 : Nat → Option Ty := fun t => find [(43, y43), (26, y26), (37, y37), (3, y3), (21, y21), (35, y35), (5, y5), (23, y23)] t
theorem ok75 : TysOk Try.prog tys75 := tysOk_of ⟨ty43, ty26, ty37, ty3, ty21, ty35, ty5, ty23, trivial⟩

/-- function 76: (pub-mintmark/impl.node).Height -/
def tys76 : Nat → Option Ty := fun t => find [(43, y43), (26, y26), (37, y37), (3, y3), (21, y21)] t
theorem ok76 : TysOk Try.prog tys76 := tysOk_of ⟨ty43, ty26, ty37, ty3, ty21, trivial⟩

/-- function 79: (pub-mintmark/impl.node).Timestamp -/
def tys79 : Nat → Option Ty := fun t => find [(43, y43), (26, y26), (37, y37), (3, y3), (21, y21), (35, y35), (5, y5), (23, y23), (2, y2)] t
theorem ok79 : TysOk Try.prog tys79 := tysOk_of ⟨ty43, ty26, ty37, ty3, ty21, ty35, ty5, ty23, ty2, trivial⟩

/-- function 80: (pub-mintmark/impl.rules).BlocksPerRetarget -/
def tys80 : Nat → Option Ty := fun t => find [(49, y49), (25, y25), (47, y47), (22, y22), (5, y5), (23, y23), (2, y2), (4, y4), (21, y21)] t
theorem ok80 : TysOk Try.prog tys80 := tysOk_of ⟨ty49, ty25, ty47, ty22, ty5, ty23, ty2, ty4, ty21, trivial⟩

/-- function 81: (pub-mintmark/impl.rules).ChainParams -/
def tys81 : Nat → Option Ty := fun t => find [(49, y49), (25, y25), (47, y47)] t
theorem ok81 : TysOk Try.prog tys81 := tysOk_of ⟨ty49, ty25, ty47, trivial⟩

/-- function 82: (pub-mintmark/impl.rules).MaxRetargetTimespan -/
def tys82 : Nat → Option Ty := fun t => find [(49, y49), (25, y25), (47, y47), (22, y22), (5, y5), (23, y23), (2, y2), (4, y4), (21, y21)] t
theorem ok82 : TysOk Try.prog tys82 := tysOk_of ⟨ty49, ty25, ty47, ty22, ty5, ty23, ty2, ty4, ty21, trivial⟩

/-- function 83: (pub-mintmark/impl.rules).MinRetargetTimespan -/
def tys83 : Nat → Option Ty := fun t => find [(49, y49), (25, y25), (47, y47), (22, y22), (5, y5), (23, y23), (2, y2), (4, y4), (21, y21)] t
theorem ok83 : TysOk Try.prog tys83 := tysOk_of ⟨ty49, ty25, ty47, ty22, ty5, ty23, ty2, ty4, ty21, trivial⟩
end Go.Proofs.Ytekoipmmmoofpaa.Tynn
set_option linter.unusedSimpArgs false
set_option linter.unusedVariables false
namespace Go.Se
open Go
/-- A method value of a value is not nil. -/
theorem nilP_val {C : Cx} {s : St} {o : Oper} {x : Operand} {m : String} {T f : Nat} {v : SV} {u : Value} {fs : Array Field} {q : Prop} (ho : o.op = .nilCheck x) (hx : s.ev x = some v) (hv : ∀ ρ, val ρ v = .func (.method m) #[.iface T u] #[])
    (h : methRow C.P T m = some (true, some (f, false))) (hT : C.P.underlying T = some (.struct fs)) (hq : q) : NilP C s o v q := by
  obtain ⟨i, row, hi, hm, hp, hf⟩ : ∃ i r, C.P.info? T = some i ∧ i.methods.find? (·.name == m) = some r ∧ r.path = #[] ∧ r.func = some (f, false) := by
    unfold methRow at h
    obtain ⟨i, hi, h⟩ := Option.bind_eq_some_iff.1 h
    obtain ⟨r, hr, h⟩ := Option.map_eq_some_iff.1 h
    simp only [Prod.mk.injEq] at h
    exact ⟨i, r, hi, hr, by simpa using h.1, h.2⟩
  refine ⟨fun ρ w ev hev => ?_, hq⟩
  unfold execOp
  rw [ho]
  simp only [hev x _ hx, hv ρ]
  obtain ⟨n, hn⟩ := depth_pos C.P
  have h2 : ∀ (g : TypeDesc → Sem (Option Bool)), (g (.struct fs) = Sem.pure (some false)) → Sem.run C.P ((underlying T).bind g) w = .ok (some false) w := fun g hg => by
    rw [run_bind_pure (run_und hT), hg]
    rfl
  have h1 : (nilAhead (C.P.types.size + Made.depth) T u m).run C.P w = .ok (some false) w := by
    rw [hn, nilAhead]
    simp only [bind]
    rw [run_bind_pure (run_info hi)]
    simp only [hm, hp]
    simp only [followBlind, hf, pure, Sem.bind]
    exact h2 _ rfl
  simp only [List.getElem?_toArray, List.getElem?_cons_zero, bind]
  rw [run_bind_pure (show program.run C.P w = .ok C.P w from rfl), run_bind_pure h1]
  simp [pure, Sem.bind, Sem.run]
end Go.Se
namespace Go.Proofs.Ytekoipmmmoofpaa.Co
open Go Go.Se Go.Proofs Go.Proofs.Ytekoipmmmoofpaa.Ht Go.Proofs.Ytekoipmmmoofpaa.Tynn

theorem unixT {P : Program} (hP : P = Try.prog) (R : RO) (x : Int) :
    RetP P 22 [.agg #[.int .i64 x]] R fun _ r => r = .int .i64 x := by
  subst hP
  refine retP_vc (fz := []) Try.func22 rfl (by decide) rfl ok22 ?_
  intro P bin cmp cnv neg com bnot beq ofN toN at_ sub_ scmp cat sget ssz ssub elem fld_ hP hA
  conv => cbv
  intro ρ R'' _ _ _
  rfl

theorem unixP {P : Program} (hP : P = Try.prog) (R : RO) (x : Int) :
    RetP P 12 [.int .i64 x, .int .i64 0] R fun _ r => r = .agg #[.int .i64 x] := by
  subst hP
  refine retP_vc (fz := []) Try.func12 rfl (by decide) rfl ok12 ?_
  intro P bin cmp cnv neg com bnot beq ofN toN at_ sub_ scmp cat sget ssz ssub elem fld_ hP hA
  conv => cbv
  intro ρ R'' _ _ _
  rfl







set_option maxRecDepth 100000 in
set_option maxHeartbeats 8000000 in
theorem calcP {P : Program} (hP : P = Try.prog) (R : RO) (rv pv plv nv : Value) (lb ts sp fa ra : Int) (re fi : Bool) (hr : RV rv ts sp fa pv) (hp : PV R pv plv lb ts ra re fi) (L : Nat) (hpl : IntAt R plv L) (hL : (dl L).length ≤ 32) (hq : Rul lb ts sp fa ra) (hmn : 1 ≤ ts / fa)
    (a : Option Addr) (n c at0 : Nat) (hnv : NV nv a n c at0) (hs : List GH) (hl : LAt R 68 HAt a n c hs) (hn : n = at0 + 1) (hn8 : n ≤ 80) (hg : ∀ g ∈ hs, Gd g) (w lbn : Nat) (hw : ts / sp = w) (hlb : lb = lbn) (sec : Int) (hs0 : 0 ≤ sec) (hs1 : sec < 4294967296)
    (X : Nat) (hX : X = NB w lbn ts fa re ra fi L hs sec) :
    RetP P 20 [.iface 43 nv, .agg #[.int .i64 sec], .iface 49 rv] R fun _ r => ∃ x : Int, r = .tuple #[.int .u32 x, .nilIface] ∧ x = X := by
  subst hP
  have hln := hl.len
  have hww := hq.w
  have hp0 := hp
  obtain ⟨ad, pcs, ts9, ra9, rfl, hp1, hp6, hp7, hp8, hp9, hp16, hts9, hp19, hp20, hra9⟩ := hp
  refine retP_vc (fz := []) Try.func20 rfl (by decide) rfl ok20 ?_
  intro P bin cmp cnv neg com bnot beq ofN toN at_ sub_ scmp cat sget ssz ssub elem fld_ hP hA
  conv => cbv
  have h1 := hq.sp0
  have h2 := hq.ts0
  have h3 := hq.ts1
  have h4 := hq.sp1
  have h5 := hq.ra0
  have h6 := hq.ra1
  refine gen_invoke (T := 49) (f := 81) (x := .v (rv)) (vs := []) rfl rfl rfl rfl rfl (mParams hP) ?_
  refine (chainParamsP hP R rv ts sp fa _ hr).callQ rfl ?_
  rintro _ rfl
  conv => cbv
  refine ld_at hA hp1 8 hp8 ?_
  conv => cbv
  refine gen_invoke (T := 43) (f := 76) (x := .v (nv)) (vs := []) rfl rfl rfl rfl rfl (mHeight hP) ?_
  refine (heightP hP R nv a n c at0 hnv (by omega)).callQ rfl ?_
  rintro _ ⟨hv, rfl, hhv⟩
  conv => cbv
  refine gen_invoke (T := 49) (f := 80) (x := .v (rv)) (vs := []) rfl rfl rfl rfl rfl (mWindow hP) ?_
  refine (windowP hP R rv lb ts sp fa ra _ hr hq).callQ rfl ?_
  rintro _ ⟨wv, rfl, hwv⟩
  conv => cbv
  refine ⟨by omega, ?_⟩
  obtain ⟨g, hgg⟩ : ∃ g, hs[at0]? = some g := ⟨_, List.getElem?_eq_getElem (by omega)⟩
  have hbj : bt hs (n - 1) = g.bits := bt_get (by rw [hn]; exact hgg)
  have htj : tm hs (n - 1) = g.time := tm_get (by rw [hn]; exact hgg)
  have hgm := hg g (List.mem_of_getElem? hgg)
  have hgt : g.time < 4294967296 ∧ g.bits < 4294967296 := by
    obtain ⟨_, cs, _, _, _, h3⟩ := hl.at_ at0 g hgg
    exact h3.fld.2.2
  have hw1 : 1 ≤ w ∧ w ≤ 20 := by omega
  have ea : bin .add .i32 hv 1 = (n : Int) := by rw [hhv, add_i32 hA (by omega)]; omega
  have er : cmp .neq (bin .rem .i32 (bin .add .i32 hv 1) wv) 0 = decide (n % w ≠ 0) := by
    rw [ea, rem_i32 hA (by omega), cmp_neq hA, hwv, hw, ← Int.natCast_emod]
    by_cases h : n % w = 0
    · rw [h]; simp
    · rw [decide_eq_true h]; exact bne_iff_ne.2 (Int.natCast_ne_zero.2 h)
  by_cases hnw : n % w = 0
  case neg =>
    rw [decide_eq_true hnw] at er
    simp (maxSteps := 10000000) only [er]
    conv => cbv
    refine gen_invoke (T := 49) (f := 81) (x := .v (rv)) (vs := []) rfl rfl rfl rfl rfl (mParams hP) ?_
    refine (chainParamsP hP R rv ts sp fa _ hr).callQ rfl ?_
    rintro _ rfl
    conv => cbv
    refine ld_at hA hp1 19 hp19 ?_
    conv => cbv
    cases hre : re with
    | false =>
      conv => cbv
      refine gen_invoke (T := 43) (f := 75) (x := .v (nv)) (vs := []) rfl rfl rfl rfl rfl (mBits hP) ?_
      refine (bitsP hP R nv a n c at0 hnv hs hl g hgg).callQ rfl ?_
      rintro _ ⟨bv, rfl, hbv⟩
      conv => cbv
      intro ρ R'' _ _ _
      exact ⟨_, rfl, by rw [hbv, NB_a hX hln.symm hnw hre, hbj]⟩
    | true =>
      conv => cbv
      refine gen_invoke (T := 49) (f := 81) (x := .v (rv)) (vs := []) rfl rfl rfl rfl rfl (mParams hP) ?_
      refine (chainParamsP hP R rv ts sp fa _ hr).callQ rfl ?_
      rintro _ rfl
      conv => cbv
      refine ld_at hA hp1 20 hp20 ?_
      conv => cbv
      refine ⟨by decide, ?_⟩
      refine gen_invoke (T := 43) (f := 79) (x := .v (nv)) (vs := []) rfl rfl rfl rfl rfl (mTime hP) ?_
      refine (timeP hP R nv a n c at0 hnv hs hl g hgg).callQ rfl ?_
      rintro _ ⟨tv, rfl, htv⟩
      conv => cbv
      refine (unixT hP R sec).callQ rfl ?_
      rintro _ rfl
      conv => cbv
      have e1 : bin .add .i64 tv (bin .quo .i64 ra9 1000000000) = (g.time : Int) + ra := by
        have e2 : bin .quo .i64 ra9 1000000000 = ra := by rw [quo_i64 hA (by omega) (by omega) (by omega), hra9]; exact Int.mul_ediv_cancel ra (by decide)
        rw [e2, htv, add_i64 hA (by omega)]
      by_cases hlt : (g.time : Int) + ra < sec
      · refine br_t (by rw [e1, cmp_gtr hA]; exact decide_eq_true hlt) ?_
        conv => cbv
        refine gen_invoke (T := 49) (f := 81) (x := .v (rv)) (vs := []) rfl rfl rfl rfl rfl (mParams hP) ?_
        refine (chainParamsP hP R rv ts sp fa _ hr).callQ rfl ?_
        rintro _ rfl
        conv => cbv
        refine ld_at hA hp1 7 hp7 ?_
        conv => cbv
        intro ρ R'' _ _ _
        exact ⟨_, rfl, by rw [hlb, NB_b hX hln.symm hnw hre (by rw [htj]; exact hlt)]⟩
      refine br_f (by rw [e1, cmp_gtr hA]; exact decide_eq_false hlt) ?_
      conv => cbv
      refine (findPrevP hP R rv _ plv nv lb ts sp fa ra re fi hr hp0 hq a n c at0 hnv (by omega) hs hl (by omega) w lbn hw hlb _ rfl).callQ rfl ?_
      rintro _ ⟨x, rfl, hx⟩
      conv => cbv
      intro ρ R'' _ _ _
      exact ⟨_, rfl, by rw [hx, NB_c hX hln.symm hnw hre (by rw [htj]; exact hlt), show n - 1 = at0 by omega]⟩
  rw [decide_eq_false (fun h => h hnw)] at er
  simp (maxSteps := 10000000) only [er]
  conv => cbv
  have hwn : w ≤ n := Nat.le_of_dvd (by omega) (Nat.dvd_of_mod_eq_zero hnw)
  refine ⟨[0, 1, 4, 5, 6, 2, 3, 7, 8], [2, 7, 3], mix hP, by kernel_rfl, ?_⟩
  conv => cbv
  refine nilP_val (f := 78) (T := 43) (m := "RelativeAncestorCtx") rfl rfl (fun ρ => rfl) (by rw [hP]; kernel_rfl) (by rw [hP]; exact Try.underlying43) ?_
  refine gen_invoke (T := 49) (f := 80) (x := .v (rv)) (vs := []) rfl rfl rfl rfl rfl (mWindow hP) ?_
  refine (windowP hP R rv lb ts sp fa ra _ hr hq).callQ rfl ?_
  rintro _ ⟨wv2, rfl, hwv2⟩
  conv => cbv
  have hdv : bin .sub .i32 wv2 1 = ((w - 1 : Nat) : Int) := by rw [hwv2, hw, sub_i32 hA (by omega)]; omega
  obtain ⟨dv, hdv1⟩ : ∃ dv, dv = bin .sub .i32 wv2 1 := ⟨_, rfl⟩
  simp (maxSteps := 10000000) only [← hdv1]
  refine gen_invoke (T := 43) (f := 78) (x := .v nv) (vs := [.v (.int .i32 dv)]) rfl rfl rfl rfl rfl (mRel hP) ?_
  refine (relP hP R nv a n c at0 hnv (by omega) (w - 1) dv (hdv1.trans hdv) (by omega)).callQ rfl ?_
  rintro _ ⟨nv2, rfl, hnv2⟩
  rw [show at0 - (w - 1) = n - w by omega] at hnv2
  conv => cbv
  obtain ⟨g2, hgg2⟩ : ∃ g, hs[n - w]? = some g := ⟨_, List.getElem?_eq_getElem (by omega)⟩
  have hbj2 : bt hs (n - w) = g2.bits := bt_get hgg2
  have htj2 : tm hs (n - w) = g2.time := tm_get hgg2
  have hgm2 := hg g2 (List.mem_of_getElem? hgg2)
  have hgt2 : g2.time < 4294967296 ∧ g2.bits < 4294967296 := by
    obtain ⟨_, cs, _, _, _, h3⟩ := hl.at_ _ g2 hgg2
    exact h3.fld.2.2
  refine gen_invoke (T := 43) (f := 79) (x := .v (nv)) (vs := []) rfl rfl rfl rfl rfl (mTime hP) ?_
  refine (timeP hP R nv a n c at0 hnv hs hl g hgg).callQ rfl ?_
  rintro _ ⟨tv, rfl, htv⟩
  conv => cbv
  refine gen_invoke (T := 43) (f := 79) (x := .v (nv2)) (vs := []) rfl rfl rfl rfl rfl (mTime hP) ?_
  refine (timeP hP R nv2 a n c _ hnv2 hs hl g2 hgg2).callQ rfl ?_
  rintro _ ⟨tv2, rfl, htv2⟩
  conv => cbv
  obtain ⟨df, hdf⟩ : ∃ df, df = bin .sub .i64 tv tv2 := ⟨_, rfl⟩
  simp (maxSteps := 10000000) only [← hdf]
  have hdf2 : df = (tm hs (n - 1) : Int) - (tm hs (n - w) : Int) := by rw [hdf, htv, htv2, sub_i64 hA (by omega), htj, htj2]
  have hbd := clamp_bd (d := df) hmn (div_le_mul (by omega) hq.fa0) hq.mx.2
  have hcl : clampI ts fa ((tm hs (n - 1) : Int) - (tm hs (n - w) : Int)) = clampI ts fa df := by rw [hdf2]
  obtain ⟨s, hsn⟩ : ∃ s : Nat, (s : Int) = clampI ts fa df := ⟨(clampI ts fa df).toNat, Int.toNat_of_nonneg (by omega)⟩
  obtain ⟨t, htn⟩ : ∃ t : Nat, (t : Int) = ts := ⟨ts.toNat, Int.toNat_of_nonneg (by omega)⟩
  have hs16 : s ≤ 160000 := by omega
  have hs01 : 1 ≤ s := by omega
  have ht01 : 1 ≤ t ∧ t ≤ 20000 := by omega
  have hqt : bin .quo .i64 ts9 1000000000 = (t : Int) := by rw [quo_i64 hA (by omega) (by omega) (by omega), hts9, Int.mul_ediv_cancel ts (by decide), htn]
  obtain ⟨Y, hY⟩ : ∃ Y, Y = tgb (g.bits / 16777216) (g.bits % 8388608) := ⟨_, rfl⟩
  obtain ⟨Y2, hY2⟩ : ∃ Y, Y = tgb (g2.bits / 16777216) (g2.bits % 8388608) := ⟨_, rfl⟩
  have hYt : Y = tgo g.bits := hY
  have hYt2 : Y2 = tgo g2.bits := hY2
  have hYl : Y < 2 ^ 256 := by rw [hYt]; exact hgm.2.2.2
  have hYl2 : Y2 < 2 ^ 256 := by rw [hYt2]; exact hgm2.2.2.2
  have hLz := lm_sz hL
  refine gen_invoke (T := 49) (f := 83) (x := .v (rv)) (vs := []) rfl rfl rfl rfl rfl (mMin hP) ?_
  refine (minP hP R rv lb ts sp fa ra _ hr hq).callQ rfl ?_
  rintro _ ⟨mn, rfl, hmnv⟩
  conv => cbv
  by_cases hd1 : df < ts / fa
  · refine br_t (by rw [cmp_lss hA, hmnv]; exact decide_eq_true hd1) ?_
    conv => cbv
    refine gen_invoke (T := 49) (f := 83) (x := .v (rv)) (vs := []) rfl rfl rfl rfl rfl (mMin hP) ?_
    refine (minP hP R rv lb ts sp fa ra _ hr hq).callQ rfl ?_
    rintro _ ⟨sv, rfl, hsv⟩
    conv => cbv
    have hsc : sv = clampI ts fa df := by rw [hsv, clampI, if_pos hd1]
    have hse : sv = (s : Int) := hsc.trans hsn.symm
    refine gen_invoke (T := 43) (f := 75) (x := .v (nv)) (vs := []) rfl rfl rfl rfl rfl (mBits hP) ?_
    refine (bitsP hP R nv a n c at0 hnv hs hl g hgg).callQ rfl ?_
    rintro _ ⟨bv, rfl, hbv⟩
    conv => cbv
    refine (c2bP hP R g.bits (g.bits / 16777216) (g.bits % 8388608) bv hbv rfl rfl hgt.2 hgm.1 hgm.2.1 Y hY).callP rfl ?_
    rintro R1 v1 hR1 hv1
    conv => cbv
    refine gen_invoke (T := 49) (f := 81) (x := .v (rv)) (vs := []) rfl rfl rfl rfl rfl (mParams hP) ?_
    refine (chainParamsP hP R1 rv ts sp fa _ hr).callQ rfl ?_
    rintro _ rfl
    conv => cbv
    refine ld_at hA (hp1.le hR1) 9 hp9 ?_
    conv => cbv
    cases hfi : fi with
    | false =>
      conv => cbv
      have hXd : X = cmpt (if L < Y * s / t then L else Y * s / t) := NB_d hX hln.symm hnw s (Y * s / t) _ t (hsn.trans hcl.symm) rfl htn (by rw [hYt, hfi]; simp only [hbj, hbj2]; rfl)
      have hsz := nw_sz (t := t) hYl hs16
      refine (newIntP hP R1 s sv hse (by omega)).callP rfl ?_
      rintro R3 v3 hR3 hv3
      conv => cbv
      refine mulC hP R3 v1 v3 Y s ((hv1).le hR3) hv3 (by omega) (by omega) (by omega) _ ?_
      intro R4 a4 n4 c4 hR4 hr4 hc4
      conv => cbv
      have hR04 : R.le R4 := RO.le_trans (hR1) (RO.le_trans hR3 hR4)
      refine gen_invoke (T := 49) (f := 81) (x := .v (rv)) (vs := []) rfl rfl rfl rfl rfl (mParams hP) ?_
      refine (chainParamsP hP R4 rv ts sp fa _ hr).callQ rfl ?_
      rintro _ rfl
      conv => cbv
      refine ld_at hA (hp1.le hR04) 16 hp16 ?_
      conv => cbv
      refine ⟨by decide, ?_⟩
      conv => cbv
      refine (newIntP hP R4 t (bin .quo .i64 ts9 1000000000) hqt (by omega)).callP rfl ?_
      rintro R5 v5 hR5 hv5
      conv => cbv
      refine divC hP R5 v5 (Y * s) t a4 n4 c4 (hr4.le hR5) hc4 hv5 (by omega) (by omega) (by omega) _ ?_
      intro R6 a6 n6 c6 b2 b3 hR6 hr6 hc6
      conv => cbv
      have hR06 : R.le R6 := RO.le_trans hR04 (RO.le_trans hR5 hR6)
      refine gen_invoke (T := 49) (f := 81) (x := .v (rv)) (vs := []) rfl rfl rfl rfl rfl (mParams hP) ?_
      refine (chainParamsP hP R6 rv ts sp fa _ hr).callQ rfl ?_
      rintro _ rfl
      conv => cbv
      refine ld_at hA (hp1.le hR06) 6 hp6 ?_
      conv => cbv
      refine cmpC hP R6 plv (Y * s / t) L a6 n6 c6 hr6 hc6 (hpl.le hR06) (by omega) (by omega) _ b2 b3 ?_
      intro ci hci
      conv => cbv
      by_cases hLN : L < Y * s / t
      · refine br_t (by rw [cmp_gtr hA]; exact decide_eq_true (hci.2 hLN)) ?_
        conv => cbv
        refine gen_invoke (T := 49) (f := 81) (x := .v (rv)) (vs := []) rfl rfl rfl rfl rfl (mParams hP) ?_
        refine (chainParamsP hP R6 rv ts sp fa _ hr).callQ rfl ?_
        rintro _ rfl
        conv => cbv
        refine ld_at hA (hp1.le hR06) 6 hp6 ?_
        conv => cbv
        refine setC hP R6 plv L a6 n6 c6 (hpl.le hR06) _ b2 b3 ?_
        intro a7 n7 c7 hr7 hc7
        conv => cbv
        rw [if_pos hLN] at hXd
        obtain ⟨CX, hCX⟩ : ∃ CX, CX = cmpt (L) := ⟨_, rfl⟩
        have hnn : n7 ≤ 100000 := by have := (hr7).len; have := ((And.intro hLz.1 hL)); omega
        have hll : (dl (L)).length ≤ 250 := by have := ((And.intro hLz.1 hL)); omega
        have hXX : X = CX := by rw [hCX]; exact hXd
        refine callP_in (fz := []) hP hA Try.func30 rfl (by decide) rfl ok30 (by simp [labL, lab]) ?_
        conv => cbv
        refine CallP.lend (bigC hP R6 a7 n7 c7 (L) (hr7) hc7 hnn hll CX hCX) rfl rfl ?_
        intro R8 hp8_ nx8 rs8 r8 hR8 ho
        obtain ⟨hf, ci8, rfl, hci8⟩ := ho ()
        refine ⟨_, _, _, hf, rfl, rfl, ?_⟩
        conv => cbv
        intro ρ R'' _ _ _
        exact ⟨_, rfl, by rw [hci8, hXX]⟩
      refine br_f (by rw [cmp_gtr hA]; exact decide_eq_false (fun h => hLN (hci.1 h))) ?_
      conv => cbv
      rw [if_neg hLN] at hXd
      obtain ⟨CX, hCX⟩ : ∃ CX, CX = cmpt (Y * s / t) := ⟨_, rfl⟩
      have hnn : n6 ≤ 100000 := by have := (hr6).len; have := (hsz.2.2); omega
      have hll : (dl (Y * s / t)).length ≤ 250 := by have := (hsz.2.2); omega
      have hXX : X = CX := by rw [hCX]; exact hXd
      refine callP_in (fz := []) hP hA Try.func30 rfl (by decide) rfl ok30 (by simp [labL, lab]) ?_
      conv => cbv
      refine CallP.lend (bigC hP R6 a6 n6 c6 (Y * s / t) (hr6) hc6 hnn hll CX hCX) rfl rfl ?_
      intro R8 hp8_ nx8 rs8 r8 hR8 ho
      obtain ⟨hf, ci8, rfl, hci8⟩ := ho ()
      refine ⟨_, _, _, hf, rfl, rfl, ?_⟩
      conv => cbv
      intro ρ R'' _ _ _
      exact ⟨_, rfl, by rw [hci8, hXX]⟩
    | true =>
      conv => cbv
      refine gen_invoke (T := 43) (f := 75) (x := .v (nv2)) (vs := []) rfl rfl rfl rfl rfl (mBits hP) ?_
      refine (bitsP hP R1 nv2 a n c (n - w) hnv2 hs (hl.le hR1 HAt.le) g2 hgg2).callQ rfl ?_
      rintro _ ⟨bv2, rfl, hbv2⟩
      conv => cbv
      refine (c2bP hP R1 g2.bits (g2.bits / 16777216) (g2.bits % 8388608) bv2 hbv2 rfl rfl hgt2.2 hgm2.1 hgm2.2.1 Y2 hY2).callP rfl ?_
      rintro R2 v2 hR2 hv2
      conv => cbv
      have hXd : X = cmpt (if L < Y2 * s / t then L else Y2 * s / t) := NB_d hX hln.symm hnw s (Y2 * s / t) _ t (hsn.trans hcl.symm) rfl htn (by rw [hYt2, hfi]; simp only [hbj, hbj2]; rfl)
      have hsz := nw_sz (t := t) hYl2 hs16
      refine (newIntP hP R2 s sv hse (by omega)).callP rfl ?_
      rintro R3 v3 hR3 hv3
      conv => cbv
      refine mulC hP R3 v2 v3 Y2 s ((hv2).le hR3) hv3 (by omega) (by omega) (by omega) _ ?_
      intro R4 a4 n4 c4 hR4 hr4 hc4
      conv => cbv
      have hR04 : R.le R4 := RO.le_trans ((RO.le_trans hR1 hR2)) (RO.le_trans hR3 hR4)
      refine gen_invoke (T := 49) (f := 81) (x := .v (rv)) (vs := []) rfl rfl rfl rfl rfl (mParams hP) ?_
      refine (chainParamsP hP R4 rv ts sp fa _ hr).callQ rfl ?_
      rintro _ rfl
      conv => cbv
      refine ld_at hA (hp1.le hR04) 16 hp16 ?_
      conv => cbv
      refine ⟨by decide, ?_⟩
      conv => cbv
      refine (newIntP hP R4 t (bin .quo .i64 ts9 1000000000) hqt (by omega)).callP rfl ?_
      rintro R5 v5 hR5 hv5
      conv => cbv
      refine divC hP R5 v5 (Y2 * s) t a4 n4 c4 (hr4.le hR5) hc4 hv5 (by omega) (by omega) (by omega) _ ?_
      intro R6 a6 n6 c6 b2 b3 hR6 hr6 hc6
      conv => cbv
      have hR06 : R.le R6 := RO.le_trans hR04 (RO.le_trans hR5 hR6)
      refine gen_invoke (T := 49) (f := 81) (x := .v (rv)) (vs := []) rfl rfl rfl rfl rfl (mParams hP) ?_
      refine (chainParamsP hP R6 rv ts sp fa _ hr).callQ rfl ?_
      rintro _ rfl
      conv => cbv
      refine ld_at hA (hp1.le hR06) 6 hp6 ?_
      conv => cbv
      refine cmpC hP R6 plv (Y2 * s / t) L a6 n6 c6 hr6 hc6 (hpl.le hR06) (by omega) (by omega) _ b2 b3 ?_
      intro ci hci
      conv => cbv
      by_cases hLN : L < Y2 * s / t
      · refine br_t (by rw [cmp_gtr hA]; exact decide_eq_true (hci.2 hLN)) ?_
        conv => cbv
        refine gen_invoke (T := 49) (f := 81) (x := .v (rv)) (vs := []) rfl rfl rfl rfl rfl (mParams hP) ?_
        refine (chainParamsP hP R6 rv ts sp fa _ hr).callQ rfl ?_
        rintro _ rfl
        conv => cbv
        refine ld_at hA (hp1.le hR06) 6 hp6 ?_
        conv => cbv
        refine setC hP R6 plv L a6 n6 c6 (hpl.le hR06) _ b2 b3 ?_
        intro a7 n7 c7 hr7 hc7
        conv => cbv
        rw [if_pos hLN] at hXd
        obtain ⟨CX, hCX⟩ : ∃ CX, CX = cmpt (L) := ⟨_, rfl⟩
        have hnn : n7 ≤ 100000 := by have := (hr7).len; have := ((And.intro hLz.1 hL)); omega
        have hll : (dl (L)).length ≤ 250 := by have := ((And.intro hLz.1 hL)); omega
        have hXX : X = CX := by rw [hCX]; exact hXd
        refine callP_in (fz := []) hP hA Try.func30 rfl (by decide) rfl ok30 (by simp [labL, lab]) ?_
        conv => cbv
        refine CallP.lend (bigC hP R6 a7 n7 c7 (L) (hr7) hc7 hnn hll CX hCX) rfl rfl ?_
        intro R8 hp8_ nx8 rs8 r8 hR8 ho
        obtain ⟨hf, ci8, rfl, hci8⟩ := ho ()
        refine ⟨_, _, _, hf, rfl, rfl, ?_⟩
        conv => cbv
        intro ρ R'' _ _ _
        exact ⟨_, rfl, by rw [hci8, hXX]⟩
      refine br_f (by rw [cmp_gtr hA]; exact decide_eq_false (fun h => hLN (hci.1 h))) ?_
      conv => cbv
      rw [if_neg hLN] at hXd
      obtain ⟨CX, hCX⟩ : ∃ CX, CX = cmpt (Y2 * s / t) := ⟨_, rfl⟩
      have hnn : n6 ≤ 100000 := by have := (hr6).len; have := (hsz.2.2); omega
      have hll : (dl (Y2 * s / t)).length ≤ 250 := by have := (hsz.2.2); omega
      have hXX : X = CX := by rw [hCX]; exact hXd
      refine callP_in (fz := []) hP hA Try.func30 rfl (by decide) rfl ok30 (by simp [labL, lab]) ?_
      conv => cbv
      refine CallP.lend (bigC hP R6 a6 n6 c6 (Y2 * s / t) (hr6) hc6 hnn hll CX hCX) rfl rfl ?_
      intro R8 hp8_ nx8 rs8 r8 hR8 ho
      obtain ⟨hf, ci8, rfl, hci8⟩ := ho ()
      refine ⟨_, _, _, hf, rfl, rfl, ?_⟩
      conv => cbv
      intro ρ R'' _ _ _
      exact ⟨_, rfl, by rw [hci8, hXX]⟩
  refine br_f (by rw [cmp_lss hA, hmnv]; exact decide_eq_false hd1) ?_
  conv => cbv
  refine gen_invoke (T := 49) (f := 82) (x := .v (rv)) (vs := []) rfl rfl rfl rfl rfl (mMax hP) ?_
  refine (maxP hP R rv lb ts sp fa ra _ hr hq).callQ rfl ?_
  rintro _ ⟨mx, rfl, hmxv⟩
  conv => cbv
  by_cases hd2 : ts * fa < df
  · refine br_t (by rw [cmp_gtr hA, hmxv]; exact decide_eq_true hd2) ?_
    conv => cbv
    refine gen_invoke (T := 49) (f := 82) (x := .v (rv)) (vs := []) rfl rfl rfl rfl rfl (mMax hP) ?_
    refine (maxP hP R rv lb ts sp fa ra _ hr hq).callQ rfl ?_
    rintro _ ⟨sv, rfl, hsv⟩
    conv => cbv
    have hsc : sv = clampI ts fa df := by rw [hsv, clampI, if_neg hd1, if_pos hd2]
    have hse : sv = (s : Int) := hsc.trans hsn.symm
    refine gen_invoke (T := 43) (f := 75) (x := .v (nv)) (vs := []) rfl rfl rfl rfl rfl (mBits hP) ?_
    refine (bitsP hP R nv a n c at0 hnv hs hl g hgg).callQ rfl ?_
    rintro _ ⟨bv, rfl, hbv⟩
    conv => cbv
    refine (c2bP hP R g.bits (g.bits / 16777216) (g.bits % 8388608) bv hbv rfl rfl hgt.2 hgm.1 hgm.2.1 Y hY).callP rfl ?_
    rintro R1 v1 hR1 hv1
    conv => cbv
    refine gen_invoke (T := 49) (f := 81) (x := .v (rv)) (vs := []) rfl rfl rfl rfl rfl (mParams hP) ?_
    refine (chainParamsP hP R1 rv ts sp fa _ hr).callQ rfl ?_
    rintro _ rfl
    conv => cbv
    refine ld_at hA (hp1.le hR1) 9 hp9 ?_
    conv => cbv
    cases hfi : fi with
    | false =>
      conv => cbv
      have hXd : X = cmpt (if L < Y * s / t then L else Y * s / t) := NB_d hX hln.symm hnw s (Y * s / t) _ t (hsn.trans hcl.symm) rfl htn (by rw [hYt, hfi]; simp only [hbj, hbj2]; rfl)
      have hsz := nw_sz (t := t) hYl hs16
      refine (newIntP hP R1 s sv hse (by omega)).callP rfl ?_
      rintro R3 v3 hR3 hv3
      conv => cbv
      refine mulC hP R3 v1 v3 Y s ((hv1).le hR3) hv3 (by omega) (by omega) (by omega) _ ?_
      intro R4 a4 n4 c4 hR4 hr4 hc4
      conv => cbv
      have hR04 : R.le R4 := RO.le_trans (hR1) (RO.le_trans hR3 hR4)
      refine gen_invoke (T := 49) (f := 81) (x := .v (rv)) (vs := []) rfl rfl rfl rfl rfl (mParams hP) ?_
      refine (chainParamsP hP R4 rv ts sp fa _ hr).callQ rfl ?_
      rintro _ rfl
      conv => cbv
      refine ld_at hA (hp1.le hR04) 16 hp16 ?_
      conv => cbv
      refine ⟨by decide, ?_⟩
      conv => cbv
      refine (newIntP hP R4 t (bin .quo .i64 ts9 1000000000) hqt (by omega)).callP rfl ?_
      rintro R5 v5 hR5 hv5
      conv => cbv
      refine divC hP R5 v5 (Y * s) t a4 n4 c4 (hr4.le hR5) hc4 hv5 (by omega) (by omega) (by omega) _ ?_
      intro R6 a6 n6 c6 b2 b3 hR6 hr6 hc6
      conv => cbv
      have hR06 : R.le R6 := RO.le_trans hR04 (RO.le_trans hR5 hR6)
      refine gen_invoke (T := 49) (f := 81) (x := .v (rv)) (vs := []) rfl rfl rfl rfl rfl (mParams hP) ?_
      refine (chainParamsP hP R6 rv ts sp fa _ hr).callQ rfl ?_
      rintro _ rfl
      conv => cbv
      refine ld_at hA (hp1.le hR06) 6 hp6 ?_
      conv => cbv
      refine cmpC hP R6 plv (Y * s / t) L a6 n6 c6 hr6 hc6 (hpl.le hR06) (by omega) (by omega) _ b2 b3 ?_
      intro ci hci
      conv => cbv
      by_cases hLN : L < Y * s / t
      · refine br_t (by rw [cmp_gtr hA]; exact decide_eq_true (hci.2 hLN)) ?_
        conv => cbv
        refine gen_invoke (T := 49) (f := 81) (x := .v (rv)) (vs := []) rfl rfl rfl rfl rfl (mParams hP) ?_
        refine (chainParamsP hP R6 rv ts sp fa _ hr).callQ rfl ?_
        rintro _ rfl
        conv => cbv
        refine ld_at hA (hp1.le hR06) 6 hp6 ?_
        conv => cbv
        refine setC hP R6 plv L a6 n6 c6 (hpl.le hR06) _ b2 b3 ?_
        intro a7 n7 c7 hr7 hc7
        conv => cbv
        rw [if_pos hLN] at hXd
        obtain ⟨CX, hCX⟩ : ∃ CX, CX = cmpt (L) := ⟨_, rfl⟩
        have hnn : n7 ≤ 100000 := by have := (hr7).len; have := ((And.intro hLz.1 hL)); omega
        have hll : (dl (L)).length ≤ 250 := by have := ((And.intro hLz.1 hL)); omega
        have hXX : X = CX := by rw [hCX]; exact hXd
        refine callP_in (fz := []) hP hA Try.func30 rfl (by decide) rfl ok30 (by simp [labL, lab]) ?_
        conv => cbv
        refine CallP.lend (bigC hP R6 a7 n7 c7 (L) (hr7) hc7 hnn hll CX hCX) rfl rfl ?_
        intro R8 hp8_ nx8 rs8 r8 hR8 ho
        obtain ⟨hf, ci8, rfl, hci8⟩ := ho ()
        refine ⟨_, _, _, hf, rfl, rfl, ?_⟩
        conv => cbv
        intro ρ R'' _ _ _
        exact ⟨_, rfl, by rw [hci8, hXX]⟩
      refine br_f (by rw [cmp_gtr hA]; exact decide_eq_false (fun h => hLN (hci.1 h))) ?_
      conv => cbv
      rw [if_neg hLN] at hXd
      obtain ⟨CX, hCX⟩ : ∃ CX, CX = cmpt (Y * s / t) := ⟨_, rfl⟩
      have hnn : n6 ≤ 100000 := by have := (hr6).len; have := (hsz.2.2); omega
      have hll : (dl (Y * s / t)).length ≤ 250 := by have := (hsz.2.2); omega
      have hXX : X = CX := by rw [hCX]; exact hXd
      refine callP_in (fz := []) hP hA Try.func30 rfl (by decide) rfl ok30 (by simp [labL, lab]) ?_
      conv => cbv
      refine CallP.lend (bigC hP R6 a6 n6 c6 (Y * s / t) (hr6) hc6 hnn hll CX hCX) rfl rfl ?_
      intro R8 hp8_ nx8 rs8 r8 hR8 ho
      obtain ⟨hf, ci8, rfl, hci8⟩ := ho ()
      refine ⟨_, _, _, hf, rfl, rfl, ?_⟩
      conv => cbv
      intro ρ R'' _ _ _
      exact ⟨_, rfl, by rw [hci8, hXX]⟩
    | true =>
      conv => cbv
      refine gen_invoke (T := 43) (f := 75) (x := .v (nv2)) (vs := []) rfl rfl rfl rfl rfl (mBits hP) ?_
      refine (bitsP hP R1 nv2 a n c (n - w) hnv2 hs (hl.le hR1 HAt.le) g2 hgg2).callQ rfl ?_
      rintro _ ⟨bv2, rfl, hbv2⟩
      conv => cbv
      refine (c2bP hP R1 g2.bits (g2.bits / 16777216) (g2.bits % 8388608) bv2 hbv2 rfl rfl hgt2.2 hgm2.1 hgm2.2.1 Y2 hY2).callP rfl ?_
      rintro R2 v2 hR2 hv2
      conv => cbv
      have hXd : X = cmpt (if L < Y2 * s / t then L else Y2 * s / t) := NB_d hX hln.symm hnw s (Y2 * s / t) _ t (hsn.trans hcl.symm) rfl htn (by rw [hYt2, hfi]; simp only [hbj, hbj2]; rfl)
      have hsz := nw_sz (t := t) hYl2 hs16
      refine (newIntP hP R2 s sv hse (by omega)).callP rfl ?_
      rintro R3 v3 hR3 hv3
      conv => cbv
      refine mulC hP R3 v2 v3 Y2 s ((hv2).le hR3) hv3 (by omega) (by omega) (by omega) _ ?_
      intro R4 a4 n4 c4 hR4 hr4 hc4
      conv => cbv
      have hR04 : R.le R4 := RO.le_trans ((RO.le_trans hR1 hR2)) (RO.le_trans hR3 hR4)
      refine gen_invoke (T := 49) (f := 81) (x := .v (rv)) (vs := []) rfl rfl rfl rfl rfl (mParams hP) ?_
      refine (chainParamsP hP R4 rv ts sp fa _ hr).callQ rfl ?_
      rintro _ rfl
      conv => cbv
      refine ld_at hA (hp1.le hR04) 16 hp16 ?_
      conv => cbv
      refine ⟨by decide, ?_⟩
      conv => cbv
      refine (newIntP hP R4 t (bin .quo .i64 ts9 1000000000) hqt (by omega)).callP rfl ?_
      rintro R5 v5 hR5 hv5
      conv => cbv
      refine divC hP R5 v5 (Y2 * s) t a4 n4 c4 (hr4.le hR5) hc4 hv5 (by omega) (by omega) (by omega) _ ?_
      intro R6 a6 n6 c6 b2 b3 hR6 hr6 hc6
      conv => cbv
      have hR06 : R.le R6 := RO.le_trans hR04 (RO.le_trans hR5 hR6)
      refine gen_invoke (T := 49) (f := 81) (x := .v (rv)) (vs := []) rfl rfl rfl rfl rfl (mParams hP) ?_
      refine (chainParamsP hP R6 rv ts sp fa _ hr).callQ rfl ?_
      rintro _ rfl
      conv => cbv
      refine ld_at hA (hp1.le hR06) 6 hp6 ?_
      conv => cbv
      refine cmpC hP R6 plv (Y2 * s / t) L a6 n6 c6 hr6 hc6 (hpl.le hR06) (by omega) (by omega) _ b2 b3 ?_
      intro ci hci
      conv => cbv
      by_cases hLN : L < Y2 * s / t
      · refine br_t (by rw [cmp_gtr hA]; exact decide_eq_true (hci.2 hLN)) ?_
        conv => cbv
        refine gen_invoke (T := 49) (f := 81) (x := .v (rv)) (vs := []) rfl rfl rfl rfl rfl (mParams hP) ?_
        refine (chainParamsP hP R6 rv ts sp fa _ hr).callQ rfl ?_
        rintro _ rfl
        conv => cbv
        refine ld_at hA (hp1.le hR06) 6 hp6 ?_
        conv => cbv
        refine setC hP R6 plv L a6 n6 c6 (hpl.le hR06) _ b2 b3 ?_
        intro a7 n7 c7 hr7 hc7
        conv => cbv
        rw [if_pos hLN] at hXd
        obtain ⟨CX, hCX⟩ : ∃ CX, CX = cmpt (L) := ⟨_, rfl⟩
        have hnn : n7 ≤ 100000 := by have := (hr7).len; have := ((And.intro hLz.1 hL)); omega
        have hll : (dl (L)).length ≤ 250 := by have := ((And.intro hLz.1 hL)); omega
        have hXX : X = CX := by rw [hCX]; exact hXd
        refine callP_in (fz := []) hP hA Try.func30 rfl (by decide) rfl ok30 (by simp [labL, lab]) ?_
        conv => cbv
        refine CallP.lend (bigC hP R6 a7 n7 c7 (L) (hr7) hc7 hnn hll CX hCX) rfl rfl ?_
        intro R8 hp8_ nx8 rs8 r8 hR8 ho
        obtain ⟨hf, ci8, rfl, hci8⟩ := ho ()
        refine ⟨_, _, _, hf, rfl, rfl, ?_⟩
        conv => cbv
        intro ρ R'' _ _ _
        exact ⟨_, rfl, by rw [hci8, hXX]⟩
      refine br_f (by rw [cmp_gtr hA]; exact decide_eq_false (fun h => hLN (hci.1 h))) ?_
      conv => cbv
      rw [if_neg hLN] at hXd
      obtain ⟨CX, hCX⟩ : ∃ CX, CX = cmpt (Y2 * s / t) := ⟨_, rfl⟩
      have hnn : n6 ≤ 100000 := by have := (hr6).len; have := (hsz.2.2); omega
      have hll : (dl (Y2 * s / t)).length ≤ 250 := by have := (hsz.2.2); omega
      have hXX : X = CX := by rw [hCX]; exact hXd
      refine callP_in (fz := []) hP hA Try.func30 rfl (by decide) rfl ok30 (by simp [labL, lab]) ?_
      conv => cbv
      refine CallP.lend (bigC hP R6 a6 n6 c6 (Y2 * s / t) (hr6) hc6 hnn hll CX hCX) rfl rfl ?_
      intro R8 hp8_ nx8 rs8 r8 hR8 ho
      obtain ⟨hf, ci8, rfl, hci8⟩ := ho ()
      refine ⟨_, _, _, hf, rfl, rfl, ?_⟩
      conv => cbv
      intro ρ R'' _ _ _
      exact ⟨_, rfl, by rw [hci8, hXX]⟩
  refine br_f (by rw [cmp_gtr hA, hmxv]; exact decide_eq_false hd2) ?_
  conv => cbv
  have hsc : df = clampI ts fa df := by rw [clampI, if_neg hd1, if_neg hd2]
  have hse : df = (s : Int) := hsc.trans hsn.symm
  refine gen_invoke (T := 43) (f := 75) (x := .v (nv)) (vs := []) rfl rfl rfl rfl rfl (mBits hP) ?_
  refine (bitsP hP R nv a n c at0 hnv hs hl g hgg).callQ rfl ?_
  rintro _ ⟨bv, rfl, hbv⟩
  conv => cbv
  refine (c2bP hP R g.bits (g.bits / 16777216) (g.bits % 8388608) bv hbv rfl rfl hgt.2 hgm.1 hgm.2.1 Y hY).callP rfl ?_
  rintro R1 v1 hR1 hv1
  conv => cbv
  refine gen_invoke (T := 49) (f := 81) (x := .v (rv)) (vs := []) rfl rfl rfl rfl rfl (mParams hP) ?_
  refine (chainParamsP hP R1 rv ts sp fa _ hr).callQ rfl ?_
  rintro _ rfl
  conv => cbv
  refine ld_at hA (hp1.le hR1) 9 hp9 ?_
  conv => cbv
  cases hfi : fi with
  | false =>
    conv => cbv
    have hXd : X = cmpt (if L < Y * s / t then L else Y * s / t) := NB_d hX hln.symm hnw s (Y * s / t) _ t (hsn.trans hcl.symm) rfl htn (by rw [hYt, hfi]; simp only [hbj, hbj2]; rfl)
    have hsz := nw_sz (t := t) hYl hs16
    refine (newIntP hP R1 s df hse (by omega)).callP rfl ?_
    rintro R3 v3 hR3 hv3
    conv => cbv
    refine mulC hP R3 v1 v3 Y s ((hv1).le hR3) hv3 (by omega) (by omega) (by omega) _ ?_
    intro R4 a4 n4 c4 hR4 hr4 hc4
    conv => cbv
    have hR04 : R.le R4 := RO.le_trans (hR1) (RO.le_trans hR3 hR4)
    refine gen_invoke (T := 49) (f := 81) (x := .v (rv)) (vs := []) rfl rfl rfl rfl rfl (mParams hP) ?_
    refine (chainParamsP hP R4 rv ts sp fa _ hr).callQ rfl ?_
    rintro _ rfl
    conv => cbv
    refine ld_at hA (hp1.le hR04) 16 hp16 ?_
    conv => cbv
    refine ⟨by decide, ?_⟩
    conv => cbv
    refine (newIntP hP R4 t (bin .quo .i64 ts9 1000000000) hqt (by omega)).callP rfl ?_
    rintro R5 v5 hR5 hv5
    conv => cbv
    refine divC hP R5 v5 (Y * s) t a4 n4 c4 (hr4.le hR5) hc4 hv5 (by omega) (by omega) (by omega) _ ?_
    intro R6 a6 n6 c6 b2 b3 hR6 hr6 hc6
    conv => cbv
    have hR06 : R.le R6 := RO.le_trans hR04 (RO.le_trans hR5 hR6)
    refine gen_invoke (T := 49) (f := 81) (x := .v (rv)) (vs := []) rfl rfl rfl rfl rfl (mParams hP) ?_
    refine (chainParamsP hP R6 rv ts sp fa _ hr).callQ rfl ?_
    rintro _ rfl
    conv => cbv
    refine ld_at hA (hp1.le hR06) 6 hp6 ?_
    conv => cbv
    refine cmpC hP R6 plv (Y * s / t) L a6 n6 c6 hr6 hc6 (hpl.le hR06) (by omega) (by omega) _ b2 b3 ?_
    intro ci hci
    conv => cbv
    by_cases hLN : L < Y * s / t
    · refine br_t (by rw [cmp_gtr hA]; exact decide_eq_true (hci.2 hLN)) ?_
      conv => cbv
      refine gen_invoke (T := 49) (f := 81) (x := .v (rv)) (vs := []) rfl rfl rfl rfl rfl (mParams hP) ?_
      refine (chainParamsP hP R6 rv ts sp fa _ hr).callQ rfl ?_
      rintro _ rfl
      conv => cbv
      refine ld_at hA (hp1.le hR06) 6 hp6 ?_
      conv => cbv
      refine setC hP R6 plv L a6 n6 c6 (hpl.le hR06) _ b2 b3 ?_
      intro a7 n7 c7 hr7 hc7
      conv => cbv
      rw [if_pos hLN] at hXd
      obtain ⟨CX, hCX⟩ : ∃ CX, CX = cmpt (L) := ⟨_, rfl⟩
      have hnn : n7 ≤ 100000 := by have := (hr7).len; have := ((And.intro hLz.1 hL)); omega
      have hll : (dl (L)).length ≤ 250 := by have := ((And.intro hLz.1 hL)); omega
      have hXX : X = CX := by rw [hCX]; exact hXd
      refine callP_in (fz := []) hP hA Try.func30 rfl (by decide) rfl ok30 (by simp [labL, lab]) ?_
      conv => cbv
      refine CallP.lend (bigC hP R6 a7 n7 c7 (L) (hr7) hc7 hnn hll CX hCX) rfl rfl ?_
      intro R8 hp8_ nx8 rs8 r8 hR8 ho
      obtain ⟨hf, ci8, rfl, hci8⟩ := ho ()
      refine ⟨_, _, _, hf, rfl, rfl, ?_⟩
      conv => cbv
      intro ρ R'' _ _ _
      exact ⟨_, rfl, by rw [hci8, hXX]⟩
    refine br_f (by rw [cmp_gtr hA]; exact decide_eq_false (fun h => hLN (hci.1 h))) ?_
    conv => cbv
    rw [if_neg hLN] at hXd
    obtain ⟨CX, hCX⟩ : ∃ CX, CX = cmpt (Y * s / t) := ⟨_, rfl⟩
    have hnn : n6 ≤ 100000 := by have := (hr6).len; have := (hsz.2.2); omega
    have hll : (dl (Y * s / t)).length ≤ 250 := by have := (hsz.2.2); omega
    have hXX : X = CX := by rw [hCX]; exact hXd
    refine callP_in (fz := []) hP hA Try.func30 rfl (by decide) rfl ok30 (by simp [labL, lab]) ?_
    conv => cbv
    refine CallP.lend (bigC hP R6 a6 n6 c6 (Y * s / t) (hr6) hc6 hnn hll CX hCX) rfl rfl ?_
    intro R8 hp8_ nx8 rs8 r8 hR8 ho
    obtain ⟨hf, ci8, rfl, hci8⟩ := ho ()
    refine ⟨_, _, _, hf, rfl, rfl, ?_⟩
    conv => cbv
    intro ρ R'' _ _ _
    exact ⟨_, rfl, by rw [hci8, hXX]⟩
  | true =>
    conv => cbv
    refine gen_invoke (T := 43) (f := 75) (x := .v (nv2)) (vs := []) rfl rfl rfl rfl rfl (mBits hP) ?_
    refine (bitsP hP R1 nv2 a n c (n - w) hnv2 hs (hl.le hR1 HAt.le) g2 hgg2).callQ rfl ?_
    rintro _ ⟨bv2, rfl, hbv2⟩
    conv => cbv
    refine (c2bP hP R1 g2.bits (g2.bits / 16777216) (g2.bits % 8388608) bv2 hbv2 rfl rfl hgt2.2 hgm2.1 hgm2.2.1 Y2 hY2).callP rfl ?_
    rintro R2 v2 hR2 hv2
    conv => cbv
    have hXd : X = cmpt (if L < Y2 * s / t then L else Y2 * s / t) := NB_d hX hln.symm hnw s (Y2 * s / t) _ t (hsn.trans hcl.symm) rfl htn (by rw [hYt2, hfi]; simp only [hbj, hbj2]; rfl)
    have hsz := nw_sz (t := t) hYl2 hs16
    refine (newIntP hP R2 s df hse (by omega)).callP rfl ?_
    rintro R3 v3 hR3 hv3
    conv => cbv
    refine mulC hP R3 v2 v3 Y2 s ((hv2).le hR3) hv3 (by omega) (by omega) (by omega) _ ?_
    intro R4 a4 n4 c4 hR4 hr4 hc4
    conv => cbv
    have hR04 : R.le R4 := RO.le_trans ((RO.le_trans hR1 hR2)) (RO.le_trans hR3 hR4)
    refine gen_invoke (T := 49) (f := 81) (x := .v (rv)) (vs := []) rfl rfl rfl rfl rfl (mParams hP) ?_
    refine (chainParamsP hP R4 rv ts sp fa _ hr).callQ rfl ?_
    rintro _ rfl
    conv => cbv
    refine ld_at hA (hp1.le hR04) 16 hp16 ?_
    conv => cbv
    refine ⟨by decide, ?_⟩
    conv => cbv
    refine (newIntP hP R4 t (bin .quo .i64 ts9 1000000000) hqt (by omega)).callP rfl ?_
    rintro R5 v5 hR5 hv5
    conv => cbv
    refine divC hP R5 v5 (Y2 * s) t a4 n4 c4 (hr4.le hR5) hc4 hv5 (by omega) (by omega) (by omega) _ ?_
    intro R6 a6 n6 c6 b2 b3 hR6 hr6 hc6
    conv => cbv
    have hR06 : R.le R6 := RO.le_trans hR04 (RO.le_trans hR5 hR6)
    refine gen_invoke (T := 49) (f := 81) (x := .v (rv)) (vs := []) rfl rfl rfl rfl rfl (mParams hP) ?_
    refine (chainParamsP hP R6 rv ts sp fa _ hr).callQ rfl ?_
    rintro _ rfl
    conv => cbv
    refine ld_at hA (hp1.le hR06) 6 hp6 ?_
    conv => cbv
    refine cmpC hP R6 plv (Y2 * s / t) L a6 n6 c6 hr6 hc6 (hpl.le hR06) (by omega) (by omega) _ b2 b3 ?_
    intro ci hci
    conv => cbv
    by_cases hLN : L < Y2 * s / t
    · refine br_t (by rw [cmp_gtr hA]; exact decide_eq_true (hci.2 hLN)) ?_
      conv => cbv
      refine gen_invoke (T := 49) (f := 81) (x := .v (rv)) (vs := []) rfl rfl rfl rfl rfl (mParams hP) ?_
      refine (chainParamsP hP R6 rv ts sp fa _ hr).callQ rfl ?_
      rintro _ rfl
      conv => cbv
      refine ld_at hA (hp1.le hR06) 6 hp6 ?_
      conv => cbv
      refine setC hP R6 plv L a6 n6 c6 (hpl.le hR06) _ b2 b3 ?_
      intro a7 n7 c7 hr7 hc7
      conv => cbv
      rw [if_pos hLN] at hXd
      obtain ⟨CX, hCX⟩ : ∃ CX, CX = cmpt (L) := ⟨_, rfl⟩
      have hnn : n7 ≤ 100000 := by have := (hr7).len; have := ((And.intro hLz.1 hL)); omega
      have hll : (dl (L)).length ≤ 250 := by have := ((And.intro hLz.1 hL)); omega
      have hXX : X = CX := by rw [hCX]; exact hXd
      refine callP_in (fz := []) hP hA Try.func30 rfl (by decide) rfl ok30 (by simp [labL, lab]) ?_
      conv => cbv
      refine CallP.lend (bigC hP R6 a7 n7 c7 (L) (hr7) hc7 hnn hll CX hCX) rfl rfl ?_
      intro R8 hp8_ nx8 rs8 r8 hR8 ho
      obtain ⟨hf, ci8, rfl, hci8⟩ := ho ()
      refine ⟨_, _, _, hf, rfl, rfl, ?_⟩
      conv => cbv
      intro ρ R'' _ _ _
      exact ⟨_, rfl, by rw [hci8, hXX]⟩
    refine br_f (by rw [cmp_gtr hA]; exact decide_eq_false (fun h => hLN (hci.1 h))) ?_
    conv => cbv
    rw [if_neg hLN] at hXd
    obtain ⟨CX, hCX⟩ : ∃ CX, CX = cmpt (Y2 * s / t) := ⟨_, rfl⟩
    have hnn : n6 ≤ 100000 := by have := (hr6).len; have := (hsz.2.2); omega
    have hll : (dl (Y2 * s / t)).length ≤ 250 := by have := (hsz.2.2); omega
    have hXX : X = CX := by rw [hCX]; exact hXd
    refine callP_in (fz := []) hP hA Try.func30 rfl (by decide) rfl ok30 (by simp [labL, lab]) ?_
    conv => cbv
    refine CallP.lend (bigC hP R6 a6 n6 c6 (Y2 * s / t) (hr6) hc6 hnn hll CX hCX) rfl rfl ?_
    intro R8 hp8_ nx8 rs8 r8 hR8 ho
    obtain ⟨hf, ci8, rfl, hci8⟩ := ho ()
    refine ⟨_, _, _, hf, rfl, rfl, ?_⟩
    conv => cbv
    intro ρ R'' _ _ _
    exact ⟨_, rfl, by rw [hci8, hXX]⟩
end Go.Proofs.Ytekoipmmmoofpaa.Co
