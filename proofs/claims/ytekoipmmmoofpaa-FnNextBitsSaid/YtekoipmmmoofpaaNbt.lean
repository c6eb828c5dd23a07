/- The bits that a header behind a chain must have: the law. -/
import Derived.Test.YtekoipmmmoofpaaNbs
import Derived.Test.YtekoipmmmoofpaaNbo
import Derived.Test.YtekoipmmmoofpaaSl
import Derived.Test.YtekoipmmmoofpaaProg
import Derived.KernelRfl
-- merged
/- The types that some functions name, as the evaluator wants them. Printed by a program of my own (seatgen.py). -/
namespace Go.Proofs.Ytekoipmmmoofpaa.Tynu
open Go Go.Se Go.Proofs

/-- int64 -/
def y2 : Ty := ⟨.int .i64, 1, false, .int .i64 0, 8⟩
theorem ty2 : tyOf Try.prog 2 = some y2 := by kernel_rfl
/-- int -/
def y3 : Ty := ⟨.int .i64, 1, false, .int .i64 0, 8⟩
theorem ty3 : tyOf Try.prog 3 = some y3 := by kernel_rfl
/-- uint32 -/
def y23 : Ty := ⟨.int .u32, 1, false, .int .u32 0, 4⟩
theorem ty23 : tyOf Try.prog 23 = some y23 := by kernel_rfl
/-- impl.Rules -/
def y25 : Ty := ⟨.stc [(0, 22), (1, 23), (2, 2), (3, 2), (4, 2), (5, 4), (6, 2), (7, 4), (8, 21), (9, 21), (10, 21)], 11, true, .agg #[.slice none 0 0, .int .u32 0, .int .i64 0, .int .i64 0, .int .i64 0, .bool false, .int .i64 0, .bool false, .int .i32 0, .int .i32 0, .int .i32 0], 88⟩
theorem ty25 : tyOf Try.prog 25 = some y25 := by kernel_rfl
/-- []impl.Header -/
def y26 : Ty := ⟨.slc 37, 1, false, .slice none 0 0, 24⟩
theorem ty26 : tyOf Try.prog 26 = some y26 := by kernel_rfl
/-- impl.Header -/
def y37 : Ty := ⟨.stc [(0, 21), (1, 35), (33, 35), (65, 23), (66, 23), (67, 23)], 68, true, .agg #[.int .i32 0, .int .u8 0, .int .u8 0, .int .u8 0, .int .u8 0, .int .u8 0, .int .u8 0, .int .u8 0, .int .u8 0, .int .u8 0, .int .u8 0, .int .u8 0, .int .u8 0, .int .u8 0, .int .u8 0, .int .u8 0, .int .u8 0, .int .u8 0, .int .u8 0, .int .u8 0, .int .u8 0, .int .u8 0, .int .u8 0, .int .u8 0, .int .u8 0, .int .u8 0, .int .u8 0, .int .u8 0, .int .u8 0, .int .u8 0, .int .u8 0, .int .u8 0, .int .u8 0, .int .u8 0, .int .u8 0, .int .u8 0, .int .u8 0, .int .u8 0, .int .u8 0, .int .u8 0, .int .u8 0, .int .u8 0, .int .u8 0, .int .u8 0, .int .u8 0, .int .u8 0, .int .u8 0, .int .u8 0, .int .u8 0, .int .u8 0, .int .u8 0, .int .u8 0, .int .u8 0, .int .u8 0, .int .u8 0, .int .u8 0, .int .u8 0, .int .u8 0, .int .u8 0, .int .u8 0, .int .u8 0, .int .u8 0, .int .u8 0, .int .u8 0, .int .u8 0, .int .u32 0, .int .u32 0, .int .u32 0], 80⟩
theorem ty37 : tyOf Try.prog 37 = some y37 := by kernel_rfl

/-- function 3: pub-mintmark/laws.FnNextBits -/
def tys3 : Nat → Option Ty := fun t => find [(25, y25), (26, y26), (37, y37), (3, y3), (2, y2), (23, y23)] t
theorem ok3 : TysOk Try.prog tys3 := tysOk_of ⟨ty25, ty26, ty37, ty3, ty2, ty23, trivial⟩
end Go.Proofs.Ytekoipmmmoofpaa.Tynu
set_option linter.unusedSimpArgs false
set_option linter.unusedVariables false
namespace Go.Proofs.Ytekoipmmmoofpaa.Co
open Go Go.Se Go.Proofs Go.Proofs.Ytekoipmmmoofpaa.Ht Go.Proofs.Ytekoipmmmoofpaa.Tynu

/-- Headers in read-only memory. -/
abbrev HdrsAt (R : RO) (a : Option Addr) (n c : Nat) (xs : List GH) : Prop := LAt R 68 HAt a n c xs


set_option maxRecDepth 100000 in
set_option maxHeartbeats 4000000 in
theorem lawN {P : Program} (hP : P = Try.prog) (R : RO) (cs0 : List Value) (xs : List Int) (h0 : RulesAt R cs0 xs) (a : Option Addr) (n c : Nat) (hs : List GH) (hl : LAt R 68 HAt a n c hs) (sec : Int) (w2 : (Lit.int .i64 sec).wf = true) :
    RetP P 3 [.agg cs0.toArray, .slice a n c, .int .i64 sec] R fun _ v => v = .bool true := by
  subst hP
  obtain ⟨la, ln, lc, lb, ts, sp, fa, re, ra, fi, h34, h66, h65, rfl, hr, hc, hb0, hb1⟩ := h0
  refine retP_vc (fz := []) Try.func3 rfl (by decide) rfl ok3 ?_
  intro P bin cmp cnv neg com bnot beq ofN toN at_ sub_ scmp cat sget ssz ssub elem fld_ hP hA
  conv => cbv
  have on := ofN_ hA n
  have nt : bnot true = false := by rw [bnot_ hA]; rfl
  have nf : bnot false = true := by rw [bnot_ hA]; rfl
  refine (fits11 hP R la ln lc lb ts sp fa re ra fi h34 h66 h65).callQ rfl ?_
  rintro _ ⟨b1, rfl⟩
  conv => cbv
  cases b1 with
  | false =>
    simp (maxSteps := 10000000) only [nf]
    conv => cbv
    intro ρ R'' _ _ _
    rfl
  | true =>
    simp (maxSteps := 10000000) only [nt]
    conv => cbv
    by_cases g1 : n ≤ 2147483647
    case neg =>
      refine br_t (by rw [on, cmp_gtr hA]; simp; omega) ?_
      conv => cbv
      intro ρ R'' _ _ _
      rfl
    refine br_f (by rw [on, cmp_gtr hA]; simp; omega) ?_
    conv => cbv
    refine (ruledS hP R la ln lc xs hr hc lb ts sp fa re ra fi h34 h66 h65 hb0 hb1 a n c hs hl).callQ rfl ?_
    rintro _ ⟨b2, rfl, hok⟩
    conv => cbv
    cases b2 with
    | false =>
      simp (maxSteps := 10000000) only [nf]
      conv => cbv
      intro ρ R'' _ _ _
      rfl
    | true =>
      have hok := hok rfl
      simp (maxSteps := 10000000) only [nt]
      conv => cbv
      by_cases g2 : sec < 0
      · have c1 : cmp .lss sec 0 = true := by rw [cmp_lss hA]; exact decide_eq_true g2
        simp (maxSteps := 10000000) only [c1]
        conv => cbv
        intro ρ R'' _ _ _
        rfl
      have c1 : cmp .lss sec 0 = false := by rw [cmp_lss hA]; exact decide_eq_false g2
      simp (maxSteps := 10000000) only [c1]
      conv => cbv
      by_cases g3 : sec < 4294967296
      case neg =>
        refine br_t (by rw [cmp_geq hA]; simp; omega) ?_
        conv => cbv
        intro ρ R'' _ _ _
        rfl
      refine br_f (by rw [cmp_geq hA]; simp; omega) ?_
      conv => cbv
      have hwn : 1 ≤ ts / sp ∧ ts / sp ≤ 20 := hok.q.w
      obtain ⟨w, hw⟩ : ∃ w : Nat, ts / sp = w := ⟨(ts / sp).toNat, (Int.toNat_of_nonneg (by omega)).symm⟩
      obtain ⟨lbn, hlb⟩ : ∃ l : Nat, lb = l := ⟨lb.toNat, (Int.toNat_of_nonneg hb0).symm⟩
      obtain ⟨L, hL⟩ : ∃ L, L = be xs := ⟨_, rfl⟩
      have hxd : xs = (dl L).reverse := by rw [hL]; exact hok.dl
      obtain ⟨X, hX⟩ : ∃ X, X = NB w lbn ts fa re ra fi L hs sec := ⟨_, rfl⟩
      refine ⟨[0, 1, 2, 4, 5, 6, 3, 7, 8, 9], [7, 8], mix hP, by kernel_rfl, ?_⟩
      conv => cbv
      refine (nextI hP R la ln lc L xs hr hc hok.l32 hxd lb ts sp fa re ra fi h34 h66 h65 hok.q hok.mn a n c hs hl hok.n1 hok.n8 hok.gd w lbn hw hlb sec (by omega) g3 X hX).callQ rfl ?_
      rintro _ ⟨x1, rfl, hx1⟩
      conv => cbv
      refine ⟨⟨⟨rfl, trivial⟩, .refl _⟩, ?_⟩
      conv => cbv
      refine (specNext hP R la ln lc L xs hr hc hok.l32 hxd (fun _ => hok.x0) lb ts sp fa re ra fi h34 h66 h65 hok.q hok.mn a n c hs hl hok.n1 hok.n8 hok.gd w lbn hw hlb sec (by omega) g3 X hX).callQ rfl ?_
      rintro _ ⟨x2, rfl, hx2⟩
      conv => cbv
      have hee : cmp .eql x1 x2 = true := by rw [cmp_eql hA, hx1, hx2]; simp
      simp (maxSteps := 10000000) only [hee]
      conv => cbv
      intro ρ R'' _ _ _
      rfl
end Go.Proofs.Ytekoipmmmoofpaa.Co
