/- Great numbers by the package: times, over, compared, set; where the first block is another's. -/
import Derived.Test.YtekoipmmmoofpaaNbj
import Derived.Test.YtekoipmmmoofpaaNbe
import Derived.LaidEqlPtr
import Derived.Test.YtekoipmmmoofpaaSl
import Derived.Test.YtekoipmmmoofpaaProg
import Derived.KernelRfl
-- merged
/- The types that some functions name, as the evaluator wants them. Printed by a program of my own (seatgen.py). -/
namespace Go.Proofs.Ytekoipmmmoofpaa.Tynl
open Go Go.Se Go.Proofs

/-- int -/
def y3 : Ty := ⟨.int .i64, 1, false, .int .i64 0, 8⟩
theorem ty3 : tyOf Try.prog 3 = some y3 := by kernel_rfl
/-- bool -/
def y4 : Ty := ⟨.bool, 1, false, .bool false, 1⟩
theorem ty4 : tyOf Try.prog 4 = some y4 := by kernel_rfl
/-- uint32 -/
def y23 : Ty := ⟨.int .u32, 1, false, .int .u32 0, 4⟩
theorem ty23 : tyOf Try.prog 23 = some y23 := by kernel_rfl
/-- *big.Int -/
def y64 : Ty := ⟨.ptr, 1, false, .pointer none, 8⟩
theorem ty64 : tyOf Try.prog 64 = some y64 := by kernel_rfl
/-- big.nat -/
def y85 : Ty := ⟨.slc 23, 1, false, .slice none 0 0, 24⟩
theorem ty85 : tyOf Try.prog 85 = some y85 := by kernel_rfl
/-- big.Int -/
def y87 : Ty := ⟨.stc [(0, 4), (1, 85)], 2, true, .agg #[.bool false, .slice none 0 0], 32⟩
theorem ty87 : tyOf Try.prog 87 = some y87 := by kernel_rfl

/-- function 25: (*pub-mintmark/pub/smallbig.Int).Mul -/
def tys25 : Nat → Option Ty := fun t => find [(87, y87), (4, y4), (85, y85), (23, y23), (3, y3)] t
theorem ok25 : TysOk Try.prog tys25 := tysOk_of ⟨ty87, ty4, ty85, ty23, ty3, trivial⟩

/-- function 27: (*pub-mintmark/pub/smallbig.Int).Div -/
def tys27 : Nat → Option Ty := fun t => find [(87, y87)] t
theorem ok27 : TysOk Try.prog tys27 := tysOk_of ⟨ty87, trivial⟩

/-- function 28: (*pub-mintmark/pub/smallbig.Int).Cmp -/
def tys28 : Nat → Option Ty := fun t => find [(64, y64), (87, y87), (4, y4), (85, y85), (23, y23)] t
theorem ok28 : TysOk Try.prog tys28 := tysOk_of ⟨ty64, ty87, ty4, ty85, ty23, trivial⟩

/-- function 29: (*pub-mintmark/pub/smallbig.Int).Set -/
def tys29 : Nat → Option Ty := fun t => find [(87, y87), (4, y4), (85, y85), (23, y23)] t
theorem ok29 : TysOk Try.prog tys29 := tysOk_of ⟨ty87, ty4, ty85, ty23, trivial⟩

/-- function 35: (*pub-mintmark/pub/smallbig.Int).DivMod -/
def tys35 : Nat → Option Ty := fun t => find [(87, y87), (4, y4), (85, y85), (23, y23)] t
theorem ok35 : TysOk Try.prog tys35 := tysOk_of ⟨ty87, ty4, ty85, ty23, trivial⟩

/-- function 42: (*pub-mintmark/pub/smallbig.Int).QuoRem -/
def tys42 : Nat → Option Ty := fun t => find [(87, y87), (4, y4), (85, y85), (23, y23), (3, y3)] t
theorem ok42 : TysOk Try.prog tys42 := tysOk_of ⟨ty87, ty4, ty85, ty23, ty3, trivial⟩
end Go.Proofs.Ytekoipmmmoofpaa.Tynl
set_option linter.unusedSimpArgs false
set_option linter.unusedVariables false
namespace Go.Se
open Go
/-- A pointer of the call's own against one into read-only memory. -/
theorem raw_eql_ro {C : Cx} {s : St} {o : Oper} {T e T2 l n bk m : Nat} {x y : Operand} {b : HB} {cb : Array Value} {tb : Nat} {K : SV → Prop} (ho : o.op = .binOp .eql T x y T2) (hx : s.ev x = some (.p l n)) (hy : s.ev y = some (.v (.pointer (some ⟨bk, m, none⟩))))
    (hb : find s.hp l = some b) (hr : s.R bk = some (.cells cb tb (0, 0))) (hT : C.P.underlying T = some (.pointer e)) (he : (C.P.info? e).map (fun i => decide (i.size = 0)) = some false) (hk : K (.v (.bool false))) : RawH C s o K := by
  obtain ⟨j, hj, hz⟩ := Option.map_eq_some_iff.1 he
  refine ⟨.v (.bool false), trivial, hk, fun ρ w hrel ev hev => ?_⟩
  unfold execOp
  rw [ho]
  simp only [hev x _ hx, hev y _ hy, val]
  have hne : ρ l ≠ bk := fun h => by
    have := hrel.dis l b hb
    rw [h, hr] at this
    cases this
  refine run_v ?_
  have hg : ∀ w, (eqGuard .eql T x y (Value.pointer (some ⟨ρ l, n, none⟩)) (Value.pointer (some ⟨bk, m, none⟩))).run C.P w = .ok () w := run_guard_other (by simp) (by simp)
  simp only [bind]
  rw [run_bind_pure (hg w)]
  exact run_eql_ptr_other w hT hj (by simpa using hz) (fun h => hne (by injection h)) (hrel.blk l b hb) (hrel.ro bk _ hr)
end Go.Se
namespace Go.Proofs.Ytekoipmmmoofpaa.Co
open Go Go.Se Go.Proofs Go.Proofs.Ytekoipmmmoofpaa.Ht Go.Proofs.Ytekoipmmmoofpaa.Tynl

abbrev iB (a : Option Addr) (n c : Nat) : HB := ⟨87, [.v (.bool false), .v (.slice a n c)]⟩


set_option maxRecDepth 100000 in
set_option maxHeartbeats 2000000 in
theorem mulC {P : Program} (hP : P = Try.prog) (R : RO) (xv yv : Value) (X Y : Nat) (hx : IntAt R xv X) (hy : IntAt R yv Y) (hXl : (cn X).length ≤ 10000) (hY0 : Y ≠ 0) (hY : Y < 4294967296) (tb : HB) {K : RO → List (Nat × HB) → Nat → List Row → SV → Prop}
    (hg : ∀ (R1 : RO) (a : Option Addr) (n c : Nat), R.le R1 → RI R1 .u32 a n (cn (X * Y)) → n ≤ c → K R1 [(1, ⟨87, [.v (.bool false), .v (.slice a n c)]⟩), (0, tb)] 2 [] (.p 1 0)) :
    CallP P 25 [.p 1 0, .v xv, .v yv] R [(1, ⟨87, [.v (.bool false), .v (.slice none 0 0)]⟩), (0, tb)] 2 [] K := by
  subst hP
  obtain ⟨bx, ax, nx, cx, rfl, hx1, hx2, hx3⟩ := hx
  obtain ⟨by_, ay, ny, cy, rfl, hy1, hy2, hy3⟩ := hy
  refine callP_of_vc (fz := []) Try.func25 rfl (by decide) (Nat.le_of_ble_eq_true rfl) ok25 (by simp [labL, lab]) ?_
  rintro P ⟨bin, cmp, cnv, neg, com, bnot, beq, ofN, toN, at_, sub_, scmp, cat, sget, ssz, ssub, elem, fld_⟩ hP hA
  conv => cbv
  have bff : beq false false = true := by rw [beq_ hA]; rfl
  have nt : bnot true = false := by rw [bnot_ hA]; rfl
  refine ⟨[0, 1, 2, 3, 4, 5, 6, 7, 8, 9, 11, 12, 13, 14, 15, 16, 17, 18, 19, 10, 20, 21, 22, 23, 24, 25], [22, 25, 19], mix hP, by kernel_rfl, ?_⟩
  conv => cbv
  refine ld_at hA (IntAt.cells hx1) 1 rfl ?_
  conv => cbv
  refine ld_at hA (IntAt.cells hy1) 1 rfl ?_
  conv => cbv
  refine ld_at hA (IntAt.cells hx1) 0 rfl ?_
  conv => cbv
  refine ld_at hA (IntAt.cells hy1) 0 rfl ?_
  conv => cbv
  simp (maxSteps := 10000000) only [bff]
  conv => cbv
  simp (maxSteps := 10000000) only [nt]
  conv => cbv
  refine (mulP hP R ax ay nx cx ny cy X Y hx2 (by rw [hx2.len]; exact hXl) hy2 hY0 hY).callP rfl ?_
  rintro R1 _ hR1 ⟨a, n, c, rfl, hr, hc⟩
  conv => cbv
  refine ⟨⟨⟨rfl, rfl, trivial⟩, .refl _⟩, ?_⟩
  conv => cbv
  have on := ofN_ hA n
  have hn0 : n = 0 ∨ n ≠ 0 := by omega
  rcases hn0 with hn0 | hn0
  · have cg : cmp .gtr (ofN n) 0 = false := by rw [on, cmp_gtr hA]; simp; omega
    simp (maxSteps := 10000000) only [cg]
    conv => cbv
    exact hg R1 a n c hR1 hr hc
  have cg : cmp .gtr (ofN n) 0 = true := by rw [on, cmp_gtr hA]; simp; omega
  simp (maxSteps := 10000000) only [cg]
  conv => cbv
  exact hg R1 a n c hR1 hr hc



set_option maxRecDepth 100000 in
set_option maxHeartbeats 4000000 in
theorem divC {P : Program} (hP : P = Try.prog) (R : RO) (yv : Value) (X Y : Nat) (a : Option Addr) (n c : Nat) (hx : RI R .u32 a n (cn X)) (hc : n ≤ c) (hy : IntAt R yv Y) (hXl : (cn X).length ≤ 10000) (hY0 : Y ≠ 0) (hY : Y < 4294967296) (tb : HB) {K : RO → List (Nat × HB) → Nat → List Row → SV → Prop}
    (hg : ∀ (R1 : RO) (a : Option Addr) (n c : Nat) (b2 b3 : HB), R.le R1 → RI R1 .u32 a n (cn (X / Y)) → n ≤ c → K R1 [(3, b3), (2, b2), (1, ⟨87, [.v (.bool false), .v (.slice a n c)]⟩), (0, tb)] 4 [] (.p 1 0)) :
    CallP P 27 [.p 1 0, .p 1 0, .v yv] R [(1, ⟨87, [.v (.bool false), .v (.slice a n c)]⟩), (0, tb)] 2 [] K := by
  subst hP
  obtain ⟨by_, ay, ny, cy, rfl, hy1, hy2, hy3⟩ := hy
  refine callP_of_vc (fz := []) Try.func27 rfl (by decide) (Nat.le_of_ble_eq_true rfl) ok27 (by simp [labL, lab]) ?_
  rintro P ⟨bin, cmp, cnv, neg, com, bnot, beq, ofN, toN, at_, sub_, scmp, cat, sget, ssz, ssub, elem, fld_⟩ hP hA
  conv => cbv
  have bff : beq false false = true := by rw [beq_ hA]; rfl
  have nt : bnot true = false := by rw [bnot_ hA]; rfl
  refine callP_in (fz := []) hP hA Try.func35 rfl (by decide) rfl ok35 (by simp [labL, lab]) ?_
  conv => cbv
  refine ld_all (IntAt.cells hy1) rfl ?_
  conv => cbv
  refine callP_in (fz := []) hP hA Try.func42 rfl (by decide) rfl ok42 (by simp [labL, lab]) ?_
  conv => cbv
  refine ⟨[0, 1, 2, 3, 4, 5, 6, 7, 8, 9, 10, 11, 12, 13], [8], mix hP, by kernel_rfl, ?_⟩
  conv => cbv
  refine ld_at hA (IntAt.cells hy1) 1 rfl ?_
  conv => cbv
  refine (divP hP R a ay n c ny cy X Y hx hc (by rw [hx.len]; exact hXl) hy2 hY0 hY).callP rfl ?_
  rintro R1 _ hR1 ⟨a1, n1, c1, a2, n2, c2, rfl, hr1, hc1, hr2, hc2⟩
  conv => cbv
  have o1 := ofN_ hA n1
  have o2 := ofN_ hA n2
  refine ⟨[0, 1, 2, 3, 4, 5, 6, 7, 8, 9, 10, 11, 12, 13, 14, 15, 16, 17, 18, 19, 20, 21, 22, 23, 24, 25, 26, 27, 28, 29, 30, 31, 32, 33, 34, 35, 36, 37, 38, 39, 40], [31, 34, 37, 40, 18, 19, 28], mix hP, by kernel_rfl, ?_⟩
  conv => cbv
  have hd1 : n1 = 0 ∨ n1 ≠ 0 := by omega
  have hd2 : n2 = 0 ∨ n2 ≠ 0 := by omega
  rcases hd1 with hd1 | hd1
  · have cg : cmp .gtr (ofN n1) 0 = false := by rw [o1, cmp_gtr hA]; simp; omega
    simp (maxSteps := 10000000) only [cg]
    conv => cbv
    rcases hd2 with hd2 | hd2
    · have cg2 : cmp .gtr (ofN n2) 0 = false := by rw [o2, cmp_gtr hA]; simp; omega
      simp (maxSteps := 10000000) only [cg2]
      conv => cbv
      exact hg R1 a1 n1 c1 _ _ hR1 hr1 hc1
    have cg2 : cmp .gtr (ofN n2) 0 = true := by rw [o2, cmp_gtr hA]; simp; omega
    simp (maxSteps := 10000000) only [cg2]
    conv => cbv
    exact hg R1 a1 n1 c1 _ _ hR1 hr1 hc1
  have cg : cmp .gtr (ofN n1) 0 = true := by rw [o1, cmp_gtr hA]; simp; omega
  simp (maxSteps := 10000000) only [cg]
  conv => cbv
  refine ld_at hA (IntAt.cells (hR1 _ _ hy1)) 0 rfl ?_
  conv => cbv
  simp (maxSteps := 10000000) only [bff]
  conv => cbv
  simp (maxSteps := 10000000) only [nt]
  conv => cbv
  rcases hd2 with hd2 | hd2
  · have cg2 : cmp .gtr (ofN n2) 0 = false := by rw [o2, cmp_gtr hA]; simp; omega
    simp (maxSteps := 10000000) only [cg2]
    conv => cbv
    exact hg R1 a1 n1 c1 _ _ hR1 hr1 hc1
  have cg2 : cmp .gtr (ofN n2) 0 = true := by rw [o2, cmp_gtr hA]; simp; omega
  simp (maxSteps := 10000000) only [cg2]
  conv => cbv
  exact hg R1 a1 n1 c1 _ _ hR1 hr1 hc1

set_option maxRecDepth 100000 in
set_option maxHeartbeats 2000000 in
theorem cmpC {P : Program} (hP : P = Try.prog) (R : RO) (yv : Value) (X Y : Nat) (a : Option Addr) (n c : Nat) (hx : RI R .u32 a n (cn X)) (hc : n ≤ c) (hy : IntAt R yv Y) (hXl : (cn X).length ≤ 10000) (hYl : (cn Y).length ≤ 10000) (tb b2 b3 : HB) {K : RO → List (Nat × HB) → Nat → List Row → SV → Prop}
    (hg : ∀ ci : Int, (0 < ci ↔ Y < X) → K R [(3, b3), (2, b2), (1, ⟨87, [.v (.bool false), .v (.slice a n c)]⟩), (0, tb)] 4 [] (.v (.int .i64 ci))) :
    CallP P 28 [.p 1 0, .v yv] R [(3, b3), (2, b2), (1, ⟨87, [.v (.bool false), .v (.slice a n c)]⟩), (0, tb)] 4 [] K := by
  subst hP
  obtain ⟨by_, ay, ny, cy, rfl, hy1, hy2, hy3⟩ := hy
  refine callP_of_vc (fz := []) Try.func28 rfl (by decide) (Nat.le_of_ble_eq_true rfl) ok28 (by simp [labL, lab]) ?_
  rintro P ⟨bin, cmp, cnv, neg, com, bnot, beq, ofN, toN, at_, sub_, scmp, cat, sget, ssz, ssub, elem, fld_⟩ hP hA
  conv => cbv
  have bff : beq false false = true := by rw [beq_ hA]; rfl
  have nt : bnot true = false := by rw [bnot_ hA]; rfl
  refine raw_eql_ro rfl rfl rfl rfl hy1 (by rw [hP]; exact Try.underlying64) (by rw [hP]; kernel_rfl) ?_
  conv => cbv
  refine ⟨[0, 1, 2, 3, 4, 5, 6, 7, 8, 9, 10, 11, 12, 13, 14, 15], [], mix hP, by kernel_rfl, ?_⟩
  conv => cbv
  refine ld_at hA (IntAt.cells hy1) 0 rfl ?_
  conv => cbv
  simp (maxSteps := 10000000) only [bff]
  conv => cbv
  refine ⟨[0, 1, 2, 3, 4, 5, 6, 7, 8, 9], [], mix hP, by kernel_rfl, ?_⟩
  conv => cbv
  refine ld_at hA (IntAt.cells hy1) 0 rfl ?_
  conv => cbv
  simp (maxSteps := 10000000) only [bff]
  conv => cbv
  refine ⟨[0, 1, 2, 3, 4, 5, 6, 7, 8, 9], [8], mix hP, by kernel_rfl, ?_⟩
  conv => cbv
  refine ld_at hA (IntAt.cells hy1) 1 rfl ?_
  conv => cbv
  refine (cmpN hP R a ay n c ny cy X Y hx (by rw [hx.len]; exact hXl) hy2 (by rw [hy2.len]; exact hYl)).callQ rfl ?_
  rintro _ ⟨ci, rfl, -, hci⟩
  conv => cbv
  exact hg ci hci

set_option maxRecDepth 100000 in
set_option maxHeartbeats 2000000 in
theorem setC {P : Program} (hP : P = Try.prog) (R : RO) (yv : Value) (Y : Nat) (a : Option Addr) (n c : Nat) (hy : IntAt R yv Y) (tb b2 b3 : HB) {K : RO → List (Nat × HB) → Nat → List Row → SV → Prop}
    (hg : ∀ (a : Option Addr) (n c : Nat), RI R .u32 a n (cn Y) → n ≤ c → K R [(3, b3), (2, b2), (1, ⟨87, [.v (.bool false), .v (.slice a n c)]⟩), (0, tb)] 4 [] (.p 1 0)) :
    CallP P 29 [.p 1 0, .v yv] R [(3, b3), (2, b2), (1, ⟨87, [.v (.bool false), .v (.slice a n c)]⟩), (0, tb)] 4 [] K := by
  subst hP
  obtain ⟨by_, ay, ny, cy, rfl, hy1, hy2, hy3⟩ := hy
  refine callP_of_vc (fz := []) Try.func29 rfl (by decide) (Nat.le_of_ble_eq_true rfl) ok29 (by simp [labL, lab]) ?_
  rintro P ⟨bin, cmp, cnv, neg, com, bnot, beq, ofN, toN, at_, sub_, scmp, cat, sget, ssz, ssub, elem, fld_⟩ hP hA
  conv => cbv
  refine ⟨[0, 1, 2, 3, 4, 5, 6, 7, 8, 9, 10, 11, 12, 13, 14, 15], [12, 15], mix hP, by kernel_rfl, ?_⟩
  conv => cbv
  refine ld_at hA (IntAt.cells hy1) 1 rfl ?_
  conv => cbv
  refine ld_at hA (IntAt.cells hy1) 0 rfl ?_
  conv => cbv
  exact hg ay ny cy hy2 hy3
end Go.Proofs.Ytekoipmmmoofpaa.Co
