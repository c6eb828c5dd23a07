/- Great numbers behind pointers into read-only memory; the number that a compact one stands for. -/
import Derived.Test.YtekoipmmmoofpaaNbg
import Derived.Test.YtekoipmmmoofpaaSl
import Derived.Test.YtekoipmmmoofpaaProg
import Derived.KernelRfl
-- merged
/- The types that some functions name, as the evaluator wants them. Printed by a program of my own (seatgen.py). -/
namespace Go.Proofs.Ytekoipmmmoofpaa.Tyni
open Go Go.Se Go.Proofs

/-- int64 -/
def y2 : Ty := ⟨.int .i64, 1, false, .int .i64 0, 8⟩
theorem ty2 : tyOf Try.prog 2 = some y2 := by kernel_rfl
/-- bool -/
def y4 : Ty := ⟨.bool, 1, false, .bool false, 1⟩
theorem ty4 : tyOf Try.prog 4 = some y4 := by kernel_rfl
/-- uint32 -/
def y23 : Ty := ⟨.int .u32, 1, false, .int .u32 0, 4⟩
theorem ty23 : tyOf Try.prog 23 = some y23 := by kernel_rfl
/-- uint64 -/
def y53 : Ty := ⟨.int .u64, 1, false, .int .u64 0, 8⟩
theorem ty53 : tyOf Try.prog 53 = some y53 := by kernel_rfl
/-- uint -/
def y59 : Ty := ⟨.int .u64, 1, false, .int .u64 0, 8⟩
theorem ty59 : tyOf Try.prog 59 = some y59 := by kernel_rfl
/-- big.nat -/
def y85 : Ty := ⟨.slc 23, 1, false, .slice none 0 0, 24⟩
theorem ty85 : tyOf Try.prog 85 = some y85 := by kernel_rfl
/-- big.Int -/
def y87 : Ty := ⟨.stc [(0, 4), (1, 85)], 2, true, .agg #[.bool false, .slice none 0 0], 32⟩
theorem ty87 : tyOf Try.prog 87 = some y87 := by kernel_rfl

/-- function 21: pub-mintmark/impl.number -/
def tys21 : Nat → Option Ty := fun t => find [(87, y87)] t
theorem ok21 : TysOk Try.prog tys21 := tysOk_of ⟨ty87, trivial⟩

/-- function 24: pub-mintmark/pub/btcd/blockchain.CompactToBig -/
def tys24 : Nat → Option Ty := fun t => find [] t
theorem ok24 : TysOk Try.prog tys24 := tysOk_of trivial

/-- function 26: pub-mintmark/pub/smallbig.NewInt -/
def tys26 : Nat → Option Ty := fun t => find [(87, y87)] t
theorem ok26 : TysOk Try.prog tys26 := tysOk_of ⟨ty87, trivial⟩

/-- function 32: pub-mintmark/pub/btcd/blockchain/inner/workmath.CompactToBig -/
def tys32 : Nat → Option Ty := fun t => find [(23, y23), (59, y59), (2, y2)] t
theorem ok32 : TysOk Try.prog tys32 := tysOk_of ⟨ty23, ty59, ty2, trivial⟩

/-- function 34: (*pub-mintmark/pub/smallbig.Int).SetInt64 -/
def tys34 : Nat → Option Ty := fun t => find [(2, y2), (53, y53), (87, y87), (4, y4), (85, y85), (23, y23)] t
theorem ok34 : TysOk Try.prog tys34 := tysOk_of ⟨ty2, ty53, ty87, ty4, ty85, ty23, trivial⟩

/-- function 39: (*pub-mintmark/pub/smallbig.Int).Lsh -/
def tys39 : Nat → Option Ty := fun t => find [(87, y87), (4, y4), (85, y85), (23, y23)] t
theorem ok39 : TysOk Try.prog tys39 := tysOk_of ⟨ty87, ty4, ty85, ty23, trivial⟩
end Go.Proofs.Ytekoipmmmoofpaa.Tyni
set_option linter.unusedSimpArgs false
set_option linter.unusedVariables false
namespace Go.Proofs.Ytekoipmmmoofpaa.Co
open Go Go.Se Go.Proofs Go.Proofs.Ytekoipmmmoofpaa.Ht Go.Proofs.Ytekoipmmmoofpaa.Tyni

/-- A great number behind a pointer. -/
def IntAt (R : RO) (v : Value) (X : Nat) : Prop := ∃ b a n c, v = .pointer (some ⟨b, 0, none⟩) ∧ R b = some (.cells #[.bool false, .slice a n c] 87 (0, 0)) ∧ RI R .u32 a n (cn X) ∧ n ≤ c

theorem IntAt.le {R R' : RO} {v : Value} {X : Nat} (h : IntAt R v X) (hl : R.le R') : IntAt R' v X :=
  let ⟨b, a, n, c, h1, h2, h3, h4⟩ := h
  ⟨b, a, n, c, h1, hl _ _ h2, h3.le hl, h4⟩

theorem IntAt.cells {R : RO} {b : Nat} {a : Option Addr} {n c : Nat} (h : R b = some (.cells #[.bool false, .slice a n c] 87 (0, 0))) : CellsAt R ⟨b, 0, none⟩ [.bool false, .slice a n c] := CellsAt.blk h

set_option maxRecDepth 100000 in
theorem newIntP {P : Program} (hP : P = Try.prog) (R : RO) (v : Nat) (vi : Int) (hv : vi = v) (hlt : v < 4611686018427387904) :
    RetP P 26 [.int .i64 vi] R fun R' r => IntAt R' r v := by
  subst hP
  refine retP_vc (fz := []) Try.func26 rfl (by decide) rfl ok26 ?_
  intro P bin cmp cnv neg com bnot beq ofN toN at_ sub_ scmp cat sget ssz ssub elem fld_ hP hA
  conv => cbv
  refine callP_in (fz := []) hP hA Try.func34 rfl (by decide) rfl ok34 (by simp [labL, lab]) ?_
  conv => cbv
  have cl : cmp .lss vi 0 = false := by rw [hv, cmp_lss hA]; exact decide_eq_false (by omega)
  simp (maxSteps := 10000000) only [cl]
  conv => cbv
  refine (natOfP hP R v (cnv .u64 vi) (by rw [hv]; exact cnv_u64 hA (by omega)) (by omega)).callP rfl ?_
  rintro R1 _ hR1 ⟨a, n, c, rfl, hr, hc⟩
  conv => cbv
  simp (maxSteps := 10000000) only [cl]
  conv => cbv
  intro ρ R'' hle hpub _
  exact ⟨ρ 0, a, n, c, rfl, hpub 0 _ rfl, hr.le hle, hc⟩

set_option maxRecDepth 100000 in
theorem numberP {P : Program} (hP : P = Try.prog) (R : RO) (a : Option Addr) (N c X : Nat) (xs : List Int) (h : RI R .u8 a N xs) (hc : N ≤ c) (hN : N ≤ 1000) (hx : xs = (dl X).reverse) :
    RetP P 21 [.slice a N c] R fun R' r => IntAt R' r X := by
  subst hP
  refine retP_vc (fz := []) Try.func21 rfl (by decide) rfl ok21 ?_
  intro P bin cmp cnv neg com bnot beq ofN toN at_ sub_ scmp cat sget ssz ssub elem fld_ hP hA
  conv => cbv
  refine setBytesC hP R a N c X xs h hc hN hx ?_
  intro Rc aA nA cA hRc hr hcA
  conv => cbv
  intro ρ R'' hle hpub _
  exact ⟨ρ 0, aA, nA, cA, rfl, hpub 0 _ rfl, hr.le hle, hcA⟩

set_option maxRecDepth 100000 in
set_option maxHeartbeats 4000000 in
theorem c2bP {P : Program} (hP : P = Try.prog) (R : RO) (bits E M : Nat) (ci : Int) (hci : ci = bits) (hE : E = bits / 16777216) (hM : M = bits % 8388608) (hb32 : bits < 4294967296) (hS : bits / 8388608 % 2 = 0) (hM0 : M ≠ 0) (Y : Nat) (hY : Y = tgb E M) :
    RetP P 24 [.int .u32 ci] R fun R' r => IntAt R' r Y := by
  subst hP
  refine retP_vc (fz := []) Try.func24 rfl (by decide) rfl ok24 ?_
  intro P bin cmp cnv neg com bnot beq ofN toN at_ sub_ scmp cat sget ssz ssub elem fld_ hP hA
  conv => cbv
  refine callP_in (fz := []) hP hA Try.func32 rfl (by decide) rfl ok32 (by simp [labL, lab]) ?_
  conv => cbv
  have hM2 : M < 8388608 := by omega
  have e1 : bin .and .u32 ci 8388607 = (M : Int) := by
    rw [hci]
    refine (and_u32 hA (y := 8388607) (by omega) (by decide)).trans ?_
    rw [show 8388607 = 2 ^ 23 - 1 by decide, Nat.and_two_pow_sub_one_eq_mod]
    congr 1
    omega
  have e2 : cmp .neq (bin .and .u32 ci 8388608) 0 = false := by
    have h1 : bin .and .u32 ci 8388608 = 0 := by
      rw [hci]
      refine (and_u32 hA (y := 8388608) (by omega) (by decide)).trans ?_
      rw [and23'' hS]
      rfl
    rw [h1, cmp_neq hA]
    rfl
  have e3 : cnv .u64 (bin .shr .u32 ci 24) = (E : Int) := by
    have h1 : bin .shr .u32 ci 24 = (E : Int) := by
      rw [hci, shr_u32 hA (by decide)]
      show (bits : Int) / 2 ^ 24 = _
      omega
    rw [h1]
    exact cnv_u64 hA (by omega)
  have hE255 : E ≤ 255 := by omega
  simp (maxSteps := 10000000) only [e2]
  conv => cbv
  refine ⟨by decide, ?_⟩
  by_cases h3 : E ≤ 3
  · rw [tgb, if_pos h3] at hY
    refine br_t (by rw [e3, cmp_leq hA]; simp; omega) ?_
    conv => cbv
    have es : bin .mul .u64 8 (bin .sub .u64 3 (cnv .u64 (bin .shr .u32 ci 24))) = ((8 * (3 - E) : Nat) : Int) := by
      have e4 : bin .sub .u64 3 (cnv .u64 (bin .shr .u32 ci 24)) = ((3 - E : Nat) : Int) := by rw [e3, sub_u64 hA (by omega)]; omega
      rw [e4, mul_u64 hA (by omega)]
      omega
    have hYM : Y ≤ M := by rw [hY]; exact Nat.div_le_self _ _
    refine ⟨by rw [es]; omega, ?_⟩
    refine (newIntP hP R Y _ (by rw [e1, es, shn_u32 hA (by omega), ← pw8, ← hY]; exact cnv_i64 hA (by omega)) (by omega)).callP rfl ?_
    rintro R1 v hR1 hv
    conv => cbv
    intro ρ R'' hle _ _
    exact hv.le hle
  rw [tgb, if_neg h3] at hY
  refine br_f (by rw [e3, cmp_leq hA]; simp; omega) ?_
  conv => cbv
  have es : bin .mul .u64 8 (bin .sub .u64 (cnv .u64 (bin .shr .u32 ci 24)) 3) = ((8 * (E - 3) : Nat) : Int) := by
    have e4 : bin .sub .u64 (cnv .u64 (bin .shr .u32 ci 24)) 3 = ((E - 3 : Nat) : Int) := by rw [e3, sub_u64 hA (by omega)]; omega
    rw [e4, mul_u64 hA (by omega)]
    omega
  refine callP_in (fz := []) hP hA Try.func26 rfl (by decide) rfl ok26 (by simp [labL, lab]) ?_
  conv => cbv
  refine callP_in (fz := []) hP hA Try.func34 rfl (by decide) rfl ok34 (by simp [labL, lab]) ?_
  conv => cbv
  have hvv : cnv .i64 (bin .and .u32 ci 8388607) = ((M : Nat) : Int) := by rw [e1]; exact cnv_i64 hA (by omega)
  have cl : cmp .lss (cnv .i64 (bin .and .u32 ci 8388607)) 0 = false := by rw [hvv, cmp_lss hA]; exact decide_eq_false (by omega)
  simp (maxSteps := 10000000) only [cl]
  conv => cbv
  refine (natOfP hP R M (cnv .u64 (cnv .i64 (bin .and .u32 ci 8388607))) (by rw [hvv]; exact cnv_u64 hA (by omega)) (by omega)).callP rfl ?_
  rintro R1 _ hR1 ⟨aB, nB, cB, rfl, hrB, hcB⟩
  conv => cbv
  simp (maxSteps := 10000000) only [cl]
  conv => cbv
  refine callP_in (fz := []) hP hA Try.func39 rfl (by decide) rfl ok39 (by simp [labL, lab]) ?_
  conv => cbv
  refine ⟨[0, 1, 2, 3, 4, 5, 6, 8, 9, 10, 11, 7, 12, 13, 14, 15, 16, 17], [14, 17], mix hP, by kernel_rfl, ?_⟩
  conv => cbv
  refine (lshP hP R1 aB nB cB M (8 * (E - 3)) _ es hrB hM0 (by omega) (by omega)).callP rfl ?_
  rintro Rc _ hRc ⟨aA, nA, cA, rfl, hr, hcA⟩
  have hYv : M * 2 ^ (8 * (E - 3)) = Y := by rw [hY, pw8]
  rw [hYv] at hr
  conv => cbv
  refine ⟨⟨⟨rfl, trivial⟩, .refl _⟩, ?_⟩
  conv => cbv
  intro ρ R'' hle hpub _
  exact ⟨ρ 0, aA, nA, cA, rfl, hpub 0 _ rfl, hr.le hle, hcA⟩
end Go.Proofs.Ytekoipmmmoofpaa.Co
