/- Chains and rules: how they lie; the methods of nodes and rules. -/
import Derived.Test.YtekoipmmmoofpaaNbh
import Derived.Test.YtekoipmmmoofpaaSl
import Derived.Test.YtekoipmmmoofpaaProg
import Derived.KernelRfl
-- merged
/- The types that some functions name, as the evaluator wants them. Printed by a program of my own (seatgen.py). -/
namespace Go.Proofs.Ytekoipmmmoofpaa.Tynj
open Go Go.Se Go.Proofs

/-- int64 -/
def y2 : Ty := ⟨.int .i64, 1, false, .int .i64 0, 8⟩
theorem ty2 : tyOf Try.prog 2 = some y2 := by kernel_rfl
/-- int -/
def y3 : Ty := ⟨.int .i64, 1, false, .int .i64 0, 8⟩
theorem ty3 : tyOf Try.prog 3 = some y3 := by kernel_rfl
/-- bool -/
def y4 : Ty := ⟨.bool, 1, false, .bool false, 1⟩
theorem ty4 : tyOf Try.prog 4 = some y4 := by kernel_rfl
/-- uint8 -/
def y5 : Ty := ⟨.int .u8, 1, false, .int .u8 0, 1⟩
theorem ty5 : tyOf Try.prog 5 = some y5 := by kernel_rfl
/-- int32 -/
def y21 : Ty := ⟨.int .i32, 1, false, .int .i32 0, 4⟩
theorem ty21 : tyOf Try.prog 21 = some y21 := by kernel_rfl
/-- []uint8 -/
def y22 : Ty := ⟨.slc 5, 1, false, .slice none 0 0, 24⟩
theorem ty22 : tyOf Try.prog 22 = some y22 := by kernel_rfl
/-- uint32 -/
def y23 : Ty := ⟨.int .u32, 1, false, .int .u32 0, 4⟩
theorem ty23 : tyOf Try.prog 23 = some y23 := by kernel_rfl
/-- impl.Rules -/
def y25 : Ty := ⟨.stc [(0, 22), (1, 23), (2, 2), (3, 2), (4, 2), (5, 4), (6, 2), (7, 4), (8, 21), (9, 21), (10, 21)], 11, true, .agg #[.slice none 0 0, .int .u32 0, .int .i64 0, .int .i64 0, .int .i64 0, .bool false, .int .i64 0, .bool false, .int .i32 0, .int .i32 0, .int .i32 0], 88⟩
theorem ty25 : tyOf Try.prog 25 = some y25 := by kernel_rfl
/-- []impl.Header -/
def y26 : Ty := ⟨.slc 37, 1, false, .slice none 0 0, 24⟩
theorem ty26 : tyOf Try.prog 26 = some y26 := by kernel_rfl
/-- [32]uint8 -/
def y35 : Ty := ⟨.arr 32 5, 32, true, .agg #[.int .u8 0, .int .u8 0, .int .u8 0, .int .u8 0, .int .u8 0, .int .u8 0, .int .u8 0, .int .u8 0, .int .u8 0, .int .u8 0, .int .u8 0, .int .u8 0, .int .u8 0, .int .u8 0, .int .u8 0, .int .u8 0, .int .u8 0, .int .u8 0, .int .u8 0, .int .u8 0, .int .u8 0, .int .u8 0, .int .u8 0, .int .u8 0, .int .u8 0, .int .u8 0, .int .u8 0, .int .u8 0, .int .u8 0, .int .u8 0, .int .u8 0, .int .u8 0], 32⟩
theorem ty35 : tyOf Try.prog 35 = some y35 := by kernel_rfl
/-- impl.Header -/
def y37 : Ty := ⟨.stc [(0, 21), (1, 35), (33, 35), (65, 23), (66, 23), (67, 23)], 68, true, .agg #[.int .i32 0, .int .u8 0, .int .u8 0, .int .u8 0, .int .u8 0, .int .u8 0, .int .u8 0, .int .u8 0, .int .u8 0, .int .u8 0, .int .u8 0, .int .u8 0, .int .u8 0, .int .u8 0, .int .u8 0, .int .u8 0, .int .u8 0, .int .u8 0, .int .u8 0, .int .u8 0, .int .u8 0, .int .u8 0, .int .u8 0, .int .u8 0, .int .u8 0, .int .u8 0, .int .u8 0, .int .u8 0, .int .u8 0, .int .u8 0, .int .u8 0, .int .u8 0, .int .u8 0, .int .u8 0, .int .u8 0, .int .u8 0, .int .u8 0, .int .u8 0, .int .u8 0, .int .u8 0, .int .u8 0, .int .u8 0, .int .u8 0, .int .u8 0, .int .u8 0, .int .u8 0, .int .u8 0, .int .u8 0, .int .u8 0, .int .u8 0, .int .u8 0, .int .u8 0, .int .u8 0, .int .u8 0, .int .u8 0, .int .u8 0, .int .u8 0, .int .u8 0, .int .u8 0, .int .u8 0, .int .u8 0, .int .u8 0, .int .u8 0, .int .u8 0, .int .u8 0, .int .u32 0, .int .u32 0, .int .u32 0], 80⟩
theorem ty37 : tyOf Try.prog 37 = some y37 := by kernel_rfl
/-- impl.node -/
def y43 : Ty := ⟨.stc [(0, 26), (1, 3)], 2, true, .agg #[.slice none 0 0, .int .i64 0], 32⟩
theorem ty43 : tyOf Try.prog 43 = some y43 := by kernel_rfl
/-- *chaincfg.Params -/
def y47 : Ty := ⟨.ptr, 1, false, .pointer none, 8⟩
theorem ty47 : tyOf Try.prog 47 = some y47 := by kernel_rfl
/-- impl.rules -/
def y49 : Ty := ⟨.stc [(0, 25), (11, 47)], 12, true, .agg #[.slice none 0 0, .int .u32 0, .int .i64 0, .int .i64 0, .int .i64 0, .bool false, .int .i64 0, .bool false, .int .i32 0, .int .i32 0, .int .i32 0, .pointer none], 96⟩
theorem ty49 : tyOf Try.prog 49 = some y49 := by kernel_rfl

/-- function 75: (pub-mintmark/impl.node).Bits -/
def tys75 : Nat → Option Ty := fun t => find [(43, y43), (26, y26), (37, y37), (3, y3), (21, y21), (35, y35), (5, y5), (23, y23)] t
theorem ok75 : TysOk Try.prog tys75 := tysOk_of ⟨ty43, ty26, ty37, ty3, ty21, ty35, ty5, ty23, trivial⟩

/-- function 76: (pub-mintmark/impl.node).Height -/
def tys76 : Nat → Option Ty := fun t => find [(43, y43), (26, y26), (37, y37), (3, y3), (21, y21)] t
theorem ok76 : TysOk Try.prog tys76 := tysOk_of ⟨ty43, ty26, ty37, ty3, ty21, trivial⟩

/-- function 77: (pub-mintmark/impl.node).Parent -/
def tys77 : Nat → Option Ty := fun t => find [(43, y43)] t
theorem ok77 : TysOk Try.prog tys77 := tysOk_of ⟨ty43, trivial⟩

/-- function 78: (pub-mintmark/impl.node).RelativeAncestorCtx -/
def tys78 : Nat → Option Ty := fun t => find [(43, y43), (21, y21), (3, y3), (26, y26), (37, y37)] t
theorem ok78 : TysOk Try.prog tys78 := tysOk_of ⟨ty43, ty21, ty3, ty26, ty37, trivial⟩

/-- function 79: (pub-mintmark/impl.node).Timestamp -/
def tys79 : Nat → Option Ty := fun t => find [(43, y43), (26, y26), (37, y37), (3, y3), (21, y21), (35, y35), (5, y5), (23, y23), (2, y2)] t
theorem ok79 : TysOk Try.prog tys79 := tysOk_of ⟨ty43, ty26, ty37, ty3, ty21, ty35, ty5, ty23, ty2, trivial⟩

/-- function 80: (pub-mintmark/impl.rules).BlocksPerRetarget -/
def tys80 : Nat → Option Ty := fun t => find [(49, y49), (25, y25), (47, y47), (22, y22), (5, y5), (23, y23), (2, y2), (4, y4), (21, y21)] t
theorem ok80 : TysOk Try.prog tys80 := tysOk_of ⟨ty49, ty25, ty47, ty22, ty5, ty23, ty2, ty4, ty21, trivial⟩

/-- function 81: (pub-mintmark/impl.rules).ChainParams -/
def tys81 : Nat → Option Ty := fun t => find [(49, y49), (25, y25), (47, y47)] t
theorem ok81 : TysOk Try.prog tys81 := tysOk_of ⟨ty49, ty25, ty47, trivial⟩

/-- function 82: (pub-mintmark/impl.rules).MaxRetargetTimespan -/
def tys82 : Nat → Option Ty := fun t => find [(49, y49), (25, y25), (47, y47), (22, y22), (5, y5), (23, y23), (2, y2), (4, y4), (21, y21)] t
theorem ok82 : TysOk Try.prog tys82 := tysOk_of ⟨ty49, ty25, ty47, ty22, ty5, ty23, ty2, ty4, ty21, trivial⟩

/-- function 83: (pub-mintmark/impl.rules).MinRetargetTimespan -/
def tys83 : Nat → Option Ty := fun t => find [(49, y49), (25, y25), (47, y47), (22, y22), (5, y5), (23, y23), (2, y2), (4, y4), (21, y21)] t
theorem ok83 : TysOk Try.prog tys83 := tysOk_of ⟨ty49, ty25, ty47, ty22, ty5, ty23, ty2, ty4, ty21, trivial⟩
end Go.Proofs.Ytekoipmmmoofpaa.Tynj
set_option linter.unusedSimpArgs false
set_option linter.unusedVariables false
namespace Go.Se
open Go
/-- A method with a value as its receiver. -/
theorem meth_val {P : Program} {T f : Nat} {m : String} (h : methRow P T m = some (true, some (f, false))) (hT : ∃ fs, P.underlying T = some (.struct fs)) : Meth P T m f := fun v w => by
  obtain ⟨i, row, hi, hm, hp, hf⟩ : ∃ i r, P.info? T = some i ∧ i.methods.find? (·.name == m) = some r ∧ r.path = #[] ∧ r.func = some (f, false) := by
    unfold methRow at h
    obtain ⟨i, hi, h⟩ := Option.bind_eq_some_iff.1 h
    obtain ⟨r, hr, h⟩ := Option.map_eq_some_iff.1 h
    simp only [Prod.mk.injEq] at h
    exact ⟨i, r, hi, hr, by simpa using h.1, h.2⟩
  obtain ⟨fs, hT⟩ := hT
  obtain ⟨n, hn⟩ := depth_pos P
  rw [hn, method]
  simp only [bind]
  rw [run_bind_pure (run_info hi)]
  simp only [hm, hp]
  simp only [follow, hf, pure, Sem.bind, receiverAt, bind]
  have h1 : ∀ (g : TypeDesc → Sem Value), (g (.struct fs) = Sem.pure v) → Sem.run P ((underlying T).bind g) w = .ok v w := fun g hg => by
    rw [run_bind_pure (run_und hT), hg]
    rfl
  rw [run_bind_pure (h1 _ rfl)]
  rfl
end Go.Se
namespace Go.Proofs.Ytekoipmmmoofpaa.Co
open Go Go.Se Go.Proofs Go.Proofs.Ytekoipmmmoofpaa.Ht Go.Proofs.Ytekoipmmmoofpaa.Tynj

/-- A header: its time and its bits. -/
structure GH where
  time : Nat
  bits : Nat

def HAt (_ : RO) (cs : List Value) (g : GH) : Prop := ∃ (v ti bi ni : Int) (ps qs : List Int), cs = .int .i32 v :: (ints .u8 ps ++ (ints .u8 qs ++ [.int .u32 ti, .int .u32 bi, .int .u32 ni])) ∧ ps.length = 32 ∧ qs.length = 32 ∧ ti = g.time ∧ bi = g.bits ∧ g.time < 4294967296 ∧ g.bits < 4294967296

theorem HAt.le {R R' : RO} (cs : List Value) (g : GH) (h : HAt R cs g) : HAt R' cs g := h

theorem HAt.fld {R : RO} {cs : List Value} {g : GH} (h : HAt R cs g) : (∃ ti : Int, cs[65]? = some (.int .u32 ti) ∧ ti = g.time) ∧ (∃ bi : Int, cs[66]? = some (.int .u32 bi) ∧ bi = g.bits) ∧ g.time < 4294967296 ∧ g.bits < 4294967296 := by
  obtain ⟨v, ti, bi, ni, ps, qs, rfl, hp, hq, ht, hb, h1, h2⟩ := h
  have lp : (ints .u8 ps).length = 32 := by rw [ints_len, hp]
  have lq : (ints .u8 qs).length = 32 := by rw [ints_len, hq]
  refine ⟨⟨ti, ?_, ht⟩, ⟨bi, ?_, hb⟩, h1, h2⟩
  · rw [List.getElem?_cons_succ, List.getElem?_append_right (by omega), List.getElem?_append_right (by omega), lp, lq]
    rfl
  · rw [List.getElem?_cons_succ, List.getElem?_append_right (by omega), List.getElem?_append_right (by omega), lp, lq]
    rfl

/-- The numbers of rules. -/
structure RN where
  la : Option Addr
  ln : Nat
  lc : Nat
  lb : Int
  ts : Int
  sp : Int
  fa : Int
  re : Bool
  ra : Int
  fi : Bool
  h34 : Int
  h66 : Int
  h65 : Int

/-- Rules that statements look at. -/
structure Rul (lb ts sp fa ra : Int) : Prop where
  lb0 : 0 ≤ lb
  lb1 : lb < 4294967296
  sp0 : 1 ≤ sp
  sp1 : sp ≤ 1000
  ts0 : sp ≤ ts
  ts1 : ts ≤ 20 * sp
  fa0 : 1 ≤ fa
  fa1 : fa ≤ 8
  ra0 : 0 ≤ ra
  ra1 : ra ≤ 1048576

theorem Rul.w {lb ts sp fa ra : Int} (h : Rul lb ts sp fa ra) : 1 ≤ ts / sp ∧ ts / sp ≤ 20 := by
  have := h.sp0
  have := h.ts0
  have h1 := h.ts1
  refine ⟨Int.le_ediv_of_mul_le (by omega) (by omega), ?_⟩
  exact Int.ediv_le_of_le_mul (by omega) h1

theorem Rul.mn {lb ts sp fa ra : Int} (h : Rul lb ts sp fa ra) : 0 ≤ ts / fa ∧ ts / fa ≤ 20000 := by
  have := h.sp0
  have := h.sp1
  have := h.ts0
  have h1 := h.ts1
  have h2 := h.fa0
  refine ⟨Int.ediv_nonneg (by omega) (by omega), ?_⟩
  refine Int.ediv_le_of_le_mul (by omega) ?_
  have : 20000 * 1 ≤ 20000 * fa := Int.mul_le_mul_of_nonneg_left h2 (by decide)
  omega

theorem Rul.mx {lb ts sp fa ra : Int} (h : Rul lb ts sp fa ra) : 1 ≤ ts * fa ∧ ts * fa ≤ 160000 := by
  have := h.sp0
  have := h.sp1
  have := h.ts0
  have h1 := h.ts1
  have h2 := h.fa0
  have h3 := h.fa1
  refine ⟨?_, ?_⟩
  · have : 1 * 1 ≤ ts * fa := Int.mul_le_mul (by omega) (by omega) (by decide) (by omega)
    omega
  · have : ts * fa ≤ 20000 * 8 := Int.mul_le_mul (by omega) (by omega) (by omega) (by decide)
    omega

/-- A value of rules: the text's, and the package's behind a pointer. -/
abbrev rcs (la : Option Addr) (ln lc : Nat) (lb ts sp fa : Int) (re : Bool) (ra : Int) (fi : Bool) (h34 h66 h65 : Int) : List Value :=
  [.slice la ln lc, .int .u32 lb, .int .i64 ts, .int .i64 sp, .int .i64 fa, .bool re, .int .i64 ra, .bool fi, .int .i32 h34, .int .i32 h66, .int .i32 h65]

def RV (rv : Value) (ts sp fa : Int) (pv : Value) : Prop := ∃ (la : Option Addr) (ln lc : Nat) (lb : Int) (re : Bool) (ra : Int) (fi : Bool) (h34 h66 h65 : Int), rv = .agg #[.slice la ln lc, .int .u32 lb, .int .i64 ts, .int .i64 sp, .int .i64 fa, .bool re, .int .i64 ra, .bool fi, .int .i32 h34, .int .i32 h66, .int .i32 h65, pv]

def NV (nv : Value) (a : Option Addr) (n c at_ : Nat) : Prop := ∃ ai : Int, nv = .agg #[.slice a n c, .int .i64 ai] ∧ ai = at_

theorem chainParamsP {P : Program} (hP : P = Try.prog) (R : RO) (rv : Value) (ts sp fa : Int) (pv : Value) (h : RV rv ts sp fa pv) :
    RetP P 81 [rv] R fun _ r => r = pv := by
  subst hP
  obtain ⟨la, ln, lc, lb, re, ra, fi, h34, h66, h65, rfl⟩ := h
  refine retP_vc (fz := []) Try.func81 rfl (by decide) rfl ok81 ?_
  intro P bin cmp cnv neg com bnot beq ofN toN at_ sub_ scmp cat sget ssz ssub elem fld_ hP hA
  conv => cbv
  intro ρ R'' _ _ _
  rfl

theorem windowP {P : Program} (hP : P = Try.prog) (R : RO) (rv : Value) (lb ts sp fa ra : Int) (pv : Value) (h : RV rv ts sp fa pv) (hq : Rul lb ts sp fa ra) :
    RetP P 80 [rv] R fun _ r => ∃ w : Int, r = .int .i32 w ∧ w = ts / sp := by
  subst hP
  obtain ⟨la, ln, lc, lb, re, ra, fi, h34, h66, h65, rfl⟩ := h
  have hw := hq.w
  have h1 := hq.sp0
  have h2 := hq.ts0
  have h3 := hq.ts1
  have h4 := hq.sp1
  refine retP_vc (fz := []) Try.func80 rfl (by decide) rfl ok80 ?_
  intro P bin cmp cnv neg com bnot beq ofN toN at_ sub_ scmp cat sget ssz ssub elem fld_ hP hA
  conv => cbv
  refine ⟨by omega, ?_⟩
  intro ρ R'' _ _ _
  have e1 : bin .quo .i64 ts sp = ts / sp := quo_i64 hA (by omega) (by omega) (by omega)
  exact ⟨_, rfl, by rw [e1]; exact cnv_i32 hA (by omega)⟩

theorem minP {P : Program} (hP : P = Try.prog) (R : RO) (rv : Value) (lb ts sp fa ra : Int) (pv : Value) (h : RV rv ts sp fa pv) (hq : Rul lb ts sp fa ra) :
    RetP P 83 [rv] R fun _ r => ∃ w : Int, r = .int .i64 w ∧ w = ts / fa := by
  subst hP
  obtain ⟨la, ln, lc, lb, re, ra, fi, h34, h66, h65, rfl⟩ := h
  have h1 := hq.sp0
  have h2 := hq.ts0
  have h3 := hq.ts1
  have h4 := hq.sp1
  have h5 := hq.fa0
  refine retP_vc (fz := []) Try.func83 rfl (by decide) rfl ok83 ?_
  intro P bin cmp cnv neg com bnot beq ofN toN at_ sub_ scmp cat sget ssz ssub elem fld_ hP hA
  conv => cbv
  refine ⟨by omega, ?_⟩
  intro ρ R'' _ _ _
  exact ⟨_, rfl, quo_i64 hA (by omega) (by omega) (by omega)⟩

theorem maxP {P : Program} (hP : P = Try.prog) (R : RO) (rv : Value) (lb ts sp fa ra : Int) (pv : Value) (h : RV rv ts sp fa pv) (hq : Rul lb ts sp fa ra) :
    RetP P 82 [rv] R fun _ r => ∃ w : Int, r = .int .i64 w ∧ w = ts * fa := by
  subst hP
  obtain ⟨la, ln, lc, lb, re, ra, fi, h34, h66, h65, rfl⟩ := h
  have hm := hq.mx
  refine retP_vc (fz := []) Try.func82 rfl (by decide) rfl ok82 ?_
  intro P bin cmp cnv neg com bnot beq ofN toN at_ sub_ scmp cat sget ssz ssub elem fld_ hP hA
  conv => cbv
  intro ρ R'' _ _ _
  exact ⟨_, rfl, mul_i64 hA (by omega)⟩

theorem heightP {P : Program} (hP : P = Try.prog) (R : RO) (nv : Value) (a : Option Addr) (n c at0 : Nat) (h : NV nv a n c at0) (ha : at0 ≤ 80) :
    RetP P 76 [nv] R fun _ r => ∃ w : Int, r = .int .i32 w ∧ w = at0 := by
  subst hP
  obtain ⟨ai, rfl, hai⟩ := h
  refine retP_vc (fz := []) Try.func76 rfl (by decide) rfl ok76 ?_
  intro P bin cmp cnv neg com bnot beq ofN toN at_ sub_ scmp cat sget ssz ssub elem fld_ hP hA
  conv => cbv
  intro ρ R'' _ _ _
  exact ⟨_, rfl, by rw [cnv_i32 hA (by omega)]; exact hai⟩

theorem bitsP {P : Program} (hP : P = Try.prog) (R : RO) (nv : Value) (a : Option Addr) (n c at0 : Nat) (h : NV nv a n c at0) (hs : List GH) (hl : LAt R 68 HAt a n c hs) (g : GH) (hg : hs[at0]? = some g) :
    RetP P 75 [nv] R fun _ r => ∃ w : Int, r = .int .u32 w ∧ w = g.bits := by
  subst hP
  obtain ⟨ai, rfl, hai⟩ := h
  have hln := hl.len
  have hlt : at0 < n := by
    rcases Nat.lt_or_ge at0 hs.length with h | h
    · omega
    · rw [List.getElem?_eq_none h] at hg; cases hg
  refine retP_vc (fz := []) Try.func75 rfl (by decide) rfl ok75 ?_
  intro P bin cmp cnv neg com bnot beq ofN toN at_ sub_ scmp cat sget ssz ssub elem fld_ hP hA
  conv => cbv
  refine ix_at hA hl at0 hai hlt ?_
  refine ld_fld hA hl at0 hai hg 66 ?_
  intro cs _ hcs
  obtain ⟨-, ⟨bi, h1, h2⟩, -, -⟩ := hcs.fld
  refine ⟨_, h1, ?_⟩
  conv => cbv
  intro ρ R'' _ _ _
  exact ⟨_, rfl, h2⟩

theorem timeP {P : Program} (hP : P = Try.prog) (R : RO) (nv : Value) (a : Option Addr) (n c at0 : Nat) (h : NV nv a n c at0) (hs : List GH) (hl : LAt R 68 HAt a n c hs) (g : GH) (hg : hs[at0]? = some g) :
    RetP P 79 [nv] R fun _ r => ∃ w : Int, r = .int .i64 w ∧ w = g.time := by
  subst hP
  obtain ⟨ai, rfl, hai⟩ := h
  have hln := hl.len
  have hlt : at0 < n := by
    rcases Nat.lt_or_ge at0 hs.length with h | h
    · omega
    · rw [List.getElem?_eq_none h] at hg; cases hg
  refine retP_vc (fz := []) Try.func79 rfl (by decide) rfl ok79 ?_
  intro P bin cmp cnv neg com bnot beq ofN toN at_ sub_ scmp cat sget ssz ssub elem fld_ hP hA
  conv => cbv
  refine ix_at hA hl at0 hai hlt ?_
  refine ld_fld hA hl at0 hai hg 65 ?_
  intro cs _ hcs
  obtain ⟨⟨ti, h1, h2⟩, -, h3, -⟩ := hcs.fld
  refine ⟨_, h1, ?_⟩
  conv => cbv
  intro ρ R'' _ _ _
  exact ⟨_, rfl, by rw [cnv_i64 hA (by omega)]; exact h2⟩

theorem relP {P : Program} (hP : P = Try.prog) (R : RO) (nv : Value) (a : Option Addr) (n c at0 : Nat) (h : NV nv a n c at0) (ha : at0 ≤ 80) (d : Nat) (di : Int) (hd : di = d) (hdl : d ≤ at0) :
    RetP P 78 [nv, .int .i32 di] R fun _ r => ∃ nv', r = .iface 43 nv' ∧ NV nv' a n c (at0 - d) := by
  subst hP
  obtain ⟨ai, rfl, hai⟩ := h
  refine retP_vc (fz := []) Try.func78 rfl (by decide) rfl ok78 ?_
  intro P bin cmp cnv neg com bnot beq ofN toN at_ sub_ scmp cat sget ssz ssub elem fld_ hP hA
  conv => cbv
  have ed : cnv .i64 di = (d : Int) := by rw [cnv_i64 hA (by omega)]; exact hd
  refine br_f (by rw [ed, hai, cmp_gtr hA]; simp; omega) ?_
  conv => cbv
  intro ρ R'' _ _ _
  exact ⟨_, rfl, _, rfl, by rw [ed, hai, sub_i64 hA (by omega)]; omega⟩

theorem parentP {P : Program} (hP : P = Try.prog) (R : RO) (nv : Value) (a : Option Addr) (n c at0 : Nat) (h : NV nv a n c at0) (ha : at0 ≤ 80) (h1 : 1 ≤ at0) :
    RetP P 77 [nv] R fun _ r => ∃ nv', r = .iface 43 nv' ∧ NV nv' a n c (at0 - 1) := by
  subst hP
  have hh := h
  obtain ⟨ai, rfl, hai⟩ := h
  refine retP_vc (fz := []) Try.func77 rfl (by decide) rfl ok77 ?_
  intro P bin cmp cnv neg com bnot beq ofN toN at_ sub_ scmp cat sget ssz ssub elem fld_ hP hA
  conv => cbv
  refine (relP hP R _ a n c at0 hh ha 1 1 rfl h1).callQ rfl ?_
  rintro _ ⟨nv', rfl, hn⟩
  conv => cbv
  intro ρ R'' _ _ _
  exact ⟨_, rfl, hn⟩
end Go.Proofs.Ytekoipmmmoofpaa.Co
