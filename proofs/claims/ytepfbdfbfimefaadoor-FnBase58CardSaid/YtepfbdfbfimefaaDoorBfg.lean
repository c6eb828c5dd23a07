/- The package: bytes in base 58. -/
import Derived.Test.YtepfbdfbfimefaaDoorBfe
import Derived.Test.YtepfbdfbfimefaaDoorBff
import Derived.Test.YtepfbdfbfimefaaDoorSl
import Derived.Test.YtepfbdfbfimefaaDoorProg
import Derived.KernelRfl
-- merged
/- The types that some functions name, as the evaluator wants them. Printed by a program of my own (seatgen.py). -/
namespace Go.Proofs.YtepfbdfbfimefaaDoor.Tyeg
open Go Go.Se Go.Proofs

/-- int -/
def y3 : Ty := ⟨.int .i64, 1, false, .int .i64 0, 8⟩
theorem ty3 : tyOf Tryd.prog 3 = some y3 := by kernel_rfl

/-- function 24: pub-mintmark/pub/btcdaddress/base58.bigRadix -/
def tys24 : Nat → Option Ty := fun t => find [(3, y3)] t
theorem ok24 : TysOk Tryd.prog tys24 := tysOk_of ⟨ty3, trivial⟩
end Go.Proofs.YtepfbdfbfimefaaDoor.Tyeg
set_option linter.unusedSimpArgs false
set_option linter.unusedVariables false
namespace Go.Proofs.YtepfbdfbfimefaaDoor.Bf
open Go Go.Se Go.Proofs Go.Proofs.YtepfbdfbfimefaaDoor.Co Go.Proofs.YtepfbdfbfimefaaDoor.Ht Go.Proofs.YtepfbdfbfimefaaDoor.Tyeg

/-- The room that is reckoned for a text. -/
def chkF (n : Nat) : Bool := match Ieee.double.mul (FloatKind.f64.nearest (n : Int)) 4608829197101310600 with
  | some r => (match (FloatKind.f64.decode r).toInt .zero with
    | some m => decide (0 ≤ m) && decide (m ≤ 1000)
    | none => false)
  | none => false
theorem chkF_all : (List.range 301).all chkF = true := by decide +kernel
theorem room {n : Nat} (h : n ≤ 300) : ∃ (r : Nat) (m : Int), Ieee.double.mul (FloatKind.f64.nearest (n : Int)) 4608829197101310600 = some r ∧ (FloatKind.f64.decode r).toInt .zero = some m ∧ 0 ≤ m ∧ m ≤ 1000 := by
  have h1 := List.all_eq_true.1 chkF_all n (List.mem_range.2 (by omega))
  unfold chkF at h1
  split at h1
  · rename_i r hr
    split at h1
    · rename_i m hm
      simp only [Bool.and_eq_true, decide_eq_true_eq] at h1
      exact ⟨r, m, hr, hm, h1.1, h1.2⟩
    · cases h1
  · cases h1

section
variable {C : Cx} {s : St} {o : Oper} {K : SV → Prop}
theorem raw_i2f {S D : Nat} {x : Operand} {n : Int} (ho : o.op = .convert S D x) (hx : s.ev x = some (.v (.int .i64 n))) (hS : C.P.underlying S = some (.int .i64)) (hD : C.P.underlying D = some (.float .f64))
    (hK : ∀ b, b = FloatKind.f64.nearest n → K (.v (.float .f64 b))) : RawH C s o K := by
  refine ⟨.v (.float .f64 (FloatKind.f64.nearest n)), trivial, hK _ rfl, fun ρ w hrel ev hev => ?_⟩
  unfold execOp
  rw [ho]
  simp only
  refine run_v ?_
  rw [hev x _ hx]
  simp only [convert, bind, val]
  rw [run_bind_pure (run_und hS), run_bind_pure (run_und hD)]
  rfl

theorem raw_fmul {P : Program} {ev : Operand → Value} {K : Value → Prop} {T T2 : Nat} {x y : Operand} {a b r : Nat} (ho : o.op = .binOp .mul T x y T2) (hx : ev x = .float .f64 a) (hy : ev y = .float .f64 b) (hr : Ieee.double.mul a b = some r)
    (hK : K (.float .f64 r)) : RawP P o ev K := by
  refine ⟨_, fun w => ?_, hK⟩
  unfold execOp
  rw [ho]
  simp only [hx, hy]
  have h1 : ∀ w, (binOp .mul T (.float .f64 a) (.float .f64 b)).run P w = .ok (.float .f64 r) w := fun w => by
    simp only [binOp, ne_eq, not_true_eq_false, if_false, Op.floatArith, bind, FloatKind.format]
    rw [hr]
    simp [pure, Sem.run, Sem.bind]
  have hg : ∀ w, (eqGuard .mul T x y (.float .f64 a) (.float .f64 b)).run P w = .ok () w := run_guard_other (by simp) (by simp)
  exact run_v (run_bin hg h1 w)

theorem raw_f2i {S D : Nat} {x : Operand} {b : Nat} {m : Int} (ho : o.op = .convert S D x) (hx : s.ev x = some (.v (.float .f64 b))) (hS : C.P.underlying S = some (.float .f64)) (hD : C.P.underlying D = some (.int .i64))
    (hm : (FloatKind.f64.decode b).toInt .zero = some m) (h0 : 0 ≤ m) (h1 : m ≤ 1000) (hK : K (.v (.int .i64 m))) : RawH C s o K := by
  refine ⟨.v (.int .i64 m), trivial, hK, fun ρ w hrel ev hev => ?_⟩
  unfold execOp
  rw [ho]
  simp only
  refine run_v ?_
  rw [hev x _ hx]
  simp only [convert, bind, val]
  rw [run_bind_pure (run_und hS), run_bind_pure (run_und hD)]
  simp only [Conv.floatToInt, hm]
  rw [if_pos ⟨by simp [IntKind.min, IntKind.signed, IntKind.bits]; omega, by simp [IntKind.max, IntKind.signed, IntKind.bits]; omega⟩]
  rfl
end

set_option maxRecDepth 100000 in
set_option maxHeartbeats 4000000 in
theorem bigRadixP {P : Program} (hP : P = Tryd.prog) (R : RO) (k : Nat) (ki : Int) (hki : ki = k) (hk1 : 1 ≤ k) (hk : k ≤ 10) (Y : Nat) (hY : Y = 58 ^ k) :
    RetP P 24 [.int .i64 ki] R fun R' r => IntAt R' r Y := by
  subst hP
  refine retP_vc (fz := []) Tryd.func24 rfl (by decide) rfl ok24 ?_
  intro P bin cmp cnv neg com bnot beq ofN toN at_ sub_ scmp cat sget ssz ssub elem fld_ hP hA
  conv => cbv
  have hcase : k = 1 ∨ k = 2 ∨ k = 3 ∨ k = 4 ∨ k = 5 ∨ k = 6 ∨ k = 7 ∨ k = 8 ∨ k = 9 ∨ k = 10 := by omega
  rcases hcase with rfl | rfl | rfl | rfl | rfl | rfl | rfl | rfl | rfl | rfl
  · obtain rfl : ki = 1 := hki
    obtain rfl : Y = 58 := hY
    refine br_t (by rw [cmp_eql hA]; decide) ?_
    conv => cbv
    refine (newIntP hP R 58 58 rfl (by decide)).callP rfl ?_
    rintro R1 r1 hR1 hr1
    conv => cbv
    intro ρ R'' hle _ _
    exact IntAt.le hr1 hle
  · obtain rfl : ki = 2 := hki
    obtain rfl : Y = 3364 := hY
    refine br_f (by rw [cmp_eql hA]; decide) ?_
    conv => cbv
    refine br_t (by rw [cmp_eql hA]; decide) ?_
    conv => cbv
    refine (newIntP hP R 3364 3364 rfl (by decide)).callP rfl ?_
    rintro R1 r1 hR1 hr1
    conv => cbv
    intro ρ R'' hle _ _
    exact IntAt.le hr1 hle
  · obtain rfl : ki = 3 := hki
    obtain rfl : Y = 195112 := hY
    refine br_f (by rw [cmp_eql hA]; decide) ?_
    conv => cbv
    refine br_f (by rw [cmp_eql hA]; decide) ?_
    conv => cbv
    refine br_t (by rw [cmp_eql hA]; decide) ?_
    conv => cbv
    refine (newIntP hP R 195112 195112 rfl (by decide)).callP rfl ?_
    rintro R1 r1 hR1 hr1
    conv => cbv
    intro ρ R'' hle _ _
    exact IntAt.le hr1 hle
  · obtain rfl : ki = 4 := hki
    obtain rfl : Y = 11316496 := hY
    refine br_f (by rw [cmp_eql hA]; decide) ?_
    conv => cbv
    refine br_f (by rw [cmp_eql hA]; decide) ?_
    conv => cbv
    refine br_f (by rw [cmp_eql hA]; decide) ?_
    conv => cbv
    refine br_t (by rw [cmp_eql hA]; decide) ?_
    conv => cbv
    refine (newIntP hP R 11316496 11316496 rfl (by decide)).callP rfl ?_
    rintro R1 r1 hR1 hr1
    conv => cbv
    intro ρ R'' hle _ _
    exact IntAt.le hr1 hle
  · obtain rfl : ki = 5 := hki
    obtain rfl : Y = 656356768 := hY
    refine br_f (by rw [cmp_eql hA]; decide) ?_
    conv => cbv
    refine br_f (by rw [cmp_eql hA]; decide) ?_
    conv => cbv
    refine br_f (by rw [cmp_eql hA]; decide) ?_
    conv => cbv
    refine br_f (by rw [cmp_eql hA]; decide) ?_
    conv => cbv
    refine br_t (by rw [cmp_eql hA]; decide) ?_
    conv => cbv
    refine (newIntP hP R 656356768 656356768 rfl (by decide)).callP rfl ?_
    rintro R1 r1 hR1 hr1
    conv => cbv
    intro ρ R'' hle _ _
    exact IntAt.le hr1 hle
  · obtain rfl : ki = 6 := hki
    obtain rfl : Y = 38068692544 := hY
    refine br_f (by rw [cmp_eql hA]; decide) ?_
    conv => cbv
    refine br_f (by rw [cmp_eql hA]; decide) ?_
    conv => cbv
    refine br_f (by rw [cmp_eql hA]; decide) ?_
    conv => cbv
    refine br_f (by rw [cmp_eql hA]; decide) ?_
    conv => cbv
    refine br_f (by rw [cmp_eql hA]; decide) ?_
    conv => cbv
    refine br_t (by rw [cmp_eql hA]; decide) ?_
    conv => cbv
    refine (newIntP hP R 38068692544 38068692544 rfl (by decide)).callP rfl ?_
    rintro R1 r1 hR1 hr1
    conv => cbv
    intro ρ R'' hle _ _
    exact IntAt.le hr1 hle
  · obtain rfl : ki = 7 := hki
    obtain rfl : Y = 2207984167552 := hY
    refine br_f (by rw [cmp_eql hA]; decide) ?_
    conv => cbv
    refine br_f (by rw [cmp_eql hA]; decide) ?_
    conv => cbv
    refine br_f (by rw [cmp_eql hA]; decide) ?_
    conv => cbv
    refine br_f (by rw [cmp_eql hA]; decide) ?_
    conv => cbv
    refine br_f (by rw [cmp_eql hA]; decide) ?_
    conv => cbv
    refine br_f (by rw [cmp_eql hA]; decide) ?_
    conv => cbv
    refine br_t (by rw [cmp_eql hA]; decide) ?_
    conv => cbv
    refine (newIntP hP R 2207984167552 2207984167552 rfl (by decide)).callP rfl ?_
    rintro R1 r1 hR1 hr1
    conv => cbv
    intro ρ R'' hle _ _
    exact IntAt.le hr1 hle
  · obtain rfl : ki = 8 := hki
    obtain rfl : Y = 128063081718016 := hY
    refine br_f (by rw [cmp_eql hA]; decide) ?_
    conv => cbv
    refine br_f (by rw [cmp_eql hA]; decide) ?_
    conv => cbv
    refine br_f (by rw [cmp_eql hA]; decide) ?_
    conv => cbv
    refine br_f (by rw [cmp_eql hA]; decide) ?_
    conv => cbv
    refine br_f (by rw [cmp_eql hA]; decide) ?_
    conv => cbv
    refine br_f (by rw [cmp_eql hA]; decide) ?_
    conv => cbv
    refine br_f (by rw [cmp_eql hA]; decide) ?_
    conv => cbv
    refine br_t (by rw [cmp_eql hA]; decide) ?_
    conv => cbv
    refine (newIntP hP R 128063081718016 128063081718016 rfl (by decide)).callP rfl ?_
    rintro R1 r1 hR1 hr1
    conv => cbv
    intro ρ R'' hle _ _
    exact IntAt.le hr1 hle
  · obtain rfl : ki = 9 := hki
    obtain rfl : Y = 7427658739644928 := hY
    refine br_f (by rw [cmp_eql hA]; decide) ?_
    conv => cbv
    refine br_f (by rw [cmp_eql hA]; decide) ?_
    conv => cbv
    refine br_f (by rw [cmp_eql hA]; decide) ?_
    conv => cbv
    refine br_f (by rw [cmp_eql hA]; decide) ?_
    conv => cbv
    refine br_f (by rw [cmp_eql hA]; decide) ?_
    conv => cbv
    refine br_f (by rw [cmp_eql hA]; decide) ?_
    conv => cbv
    refine br_f (by rw [cmp_eql hA]; decide) ?_
    conv => cbv
    refine br_f (by rw [cmp_eql hA]; decide) ?_
    conv => cbv
    refine br_t (by rw [cmp_eql hA]; decide) ?_
    conv => cbv
    refine (newIntP hP R 7427658739644928 7427658739644928 rfl (by decide)).callP rfl ?_
    rintro R1 r1 hR1 hr1
    conv => cbv
    intro ρ R'' hle _ _
    exact IntAt.le hr1 hle
  · obtain rfl : ki = 10 := hki
    obtain rfl : Y = 430804206899405824 := hY
    refine br_f (by rw [cmp_eql hA]; decide) ?_
    conv => cbv
    refine br_f (by rw [cmp_eql hA]; decide) ?_
    conv => cbv
    refine br_f (by rw [cmp_eql hA]; decide) ?_
    conv => cbv
    refine br_f (by rw [cmp_eql hA]; decide) ?_
    conv => cbv
    refine br_f (by rw [cmp_eql hA]; decide) ?_
    conv => cbv
    refine br_f (by rw [cmp_eql hA]; decide) ?_
    conv => cbv
    refine br_f (by rw [cmp_eql hA]; decide) ?_
    conv => cbv
    refine br_f (by rw [cmp_eql hA]; decide) ?_
    conv => cbv
    refine br_f (by rw [cmp_eql hA]; decide) ?_
    conv => cbv
    refine br_t (by rw [cmp_eql hA]; decide) ?_
    conv => cbv
    refine (newIntP hP R 430804206899405824 430804206899405824 rfl (by decide)).callP rfl ?_
    rintro R1 r1 hR1 hr1
    conv => cbv
    intro ρ R'' hle _ _
    exact IntAt.le hr1 hle

end Go.Proofs.YtepfbdfbfimefaaDoor.Bf
