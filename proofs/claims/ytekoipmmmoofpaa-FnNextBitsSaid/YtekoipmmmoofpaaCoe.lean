/- Great numbers: the compact number of one, by the package. -/
import Derived.Test.YtekoipmmmoofpaaCod
import Derived.Test.YtekoipmmmoofpaaSl
import Derived.Test.YtekoipmmmoofpaaProg
import Derived.KernelRfl
-- merged
/- The types that some functions name, as the evaluator wants them. Printed by a program of my own (seatgen.py). -/
namespace Go.Proofs.Ytekoipmmmoofpaa.Tycr
open Go Go.Se Go.Proofs

/-- int -/
def y3 : Ty := ⟨.int .i64, 1, false, .int .i64 0, 8⟩
theorem ty3 : tyOf Try.prog 3 = some y3 := by kernel_rfl
/-- bool -/
def y4 : Ty := ⟨.bool, 1, false, .bool false, 1⟩
theorem ty4 : tyOf Try.prog 4 = some y4 := by kernel_rfl
/-- uint8 -/
def y5 : Ty := ⟨.int .u8, 1, false, .int .u8 0, 1⟩
theorem ty5 : tyOf Try.prog 5 = some y5 := by kernel_rfl
/-- []uint8 -/
def y22 : Ty := ⟨.slc 5, 1, false, .slice none 0 0, 24⟩
theorem ty22 : tyOf Try.prog 22 = some y22 := by kernel_rfl
/-- uint32 -/
def y23 : Ty := ⟨.int .u32, 1, false, .int .u32 0, 4⟩
theorem ty23 : tyOf Try.prog 23 = some y23 := by kernel_rfl
/-- uint -/
def y59 : Ty := ⟨.int .u64, 1, false, .int .u64 0, 8⟩
theorem ty59 : tyOf Try.prog 59 = some y59 := by kernel_rfl
/-- big.nat -/
def y85 : Ty := ⟨.slc 23, 1, false, .slice none 0 0, 24⟩
theorem ty85 : tyOf Try.prog 85 = some y85 := by kernel_rfl
/-- big.Int -/
def y87 : Ty := ⟨.stc [(0, 4), (1, 85)], 2, true, .agg #[.bool false, .slice none 0 0], 32⟩
theorem ty87 : tyOf Try.prog 87 = some y87 := by kernel_rfl
/-- big.Word -/
def y104 : Ty := ⟨.int .u64, 1, false, .int .u64 0, 8⟩
theorem ty104 : tyOf Try.prog 104 = some y104 := by kernel_rfl
/-- []big.Word -/
def y105 : Ty := ⟨.slc 104, 1, false, .slice none 0 0, 24⟩
theorem ty105 : tyOf Try.prog 105 = some y105 := by kernel_rfl

/-- function 29: (*pub-mintmark/pub/smallbig.Int).Set -/
def tys29 : Nat → Option Ty := fun t => find [(87, y87), (4, y4), (85, y85), (23, y23)] t
theorem ok29 : TysOk Try.prog tys29 := tysOk_of ⟨ty87, ty4, ty85, ty23, trivial⟩

/-- function 37: pub-mintmark/pub/btcd/blockchain/inner/workmath.BigToCompact -/
def tys37 : Nat → Option Ty := fun t => find [(3, y3), (22, y22), (5, y5), (59, y59), (105, y105), (104, y104), (23, y23), (87, y87)] t
theorem ok37 : TysOk Try.prog tys37 := tysOk_of ⟨ty3, ty22, ty5, ty59, ty105, ty104, ty23, ty87, trivial⟩

/-- function 46: (*pub-mintmark/pub/smallbig.Int).Sign -/
def tys46 : Nat → Option Ty := fun t => find [(87, y87), (4, y4), (85, y85), (23, y23), (3, y3)] t
theorem ok46 : TysOk Try.prog tys46 := tysOk_of ⟨ty87, ty4, ty85, ty23, ty3, trivial⟩

/-- function 49: (*pub-mintmark/pub/smallbig.Int).Rsh -/
def tys49 : Nat → Option Ty := fun t => find [(87, y87), (4, y4), (85, y85), (23, y23)] t
theorem ok49 : TysOk Try.prog tys49 := tysOk_of ⟨ty87, ty4, ty85, ty23, trivial⟩
end Go.Proofs.Ytekoipmmmoofpaa.Tycr
set_option linter.unusedSimpArgs false
set_option linter.unusedVariables false
namespace Go.Proofs.Ytekoipmmmoofpaa.Co
open Go Go.Se Go.Proofs Go.Proofs.Ytekoipmmmoofpaa.Ht Go.Proofs.Ytekoipmmmoofpaa.Tycr


set_option maxRecDepth 100000 in
set_option maxHeartbeats 4000000 in
theorem bigC {P : Program} (hP : P = Try.prog) (Rc : RO) (aA : Option Addr) (nA cA X : Nat) (hr : RI Rc .u32 aA nA (cn X)) (hcA : nA ≤ cA) (hnA : nA ≤ 100000) (hLs : (dl X).length ≤ 250) (CX : Nat) (hCX : CX = cmpt X) :
    CallP P 37 [.p 0 0] Rc [(0, ⟨87, [.v (.bool false), .v (.slice aA nA cA)]⟩)] 1 [] fun R' hp' _ _ r => ∀ _ : Unit, find hp' 0 = some ⟨87, [.v (.bool false), .v (.slice aA nA cA)]⟩ ∧ ∃ ci : Int, r = .v (.int .u32 ci) ∧ ci = (CX : Nat) := by
  subst hP
  refine callP_vc (fz := []) Try.func37 rfl (by decide) rfl ok37 rfl ?_
  intro P bin cmp cnv neg com bnot beq ofN toN at_ sub_ scmp cat sget ssz ssub elem fld_ hP hA
  conv => cbv
  have oA := ofN_ hA nA
  refine callP_in (fz := []) hP hA Try.func46 rfl (by decide) rfl ok46 (by simp [labL, lab]) ?_
  conv => cbv
  by_cases hX0 : X = 0
  · have h1 : nA = 0 := by rw [hr.len, hX0, cn0]; rfl
    refine br_t (by rw [oA, cmp_eql hA]; simp; omega) ?_
    conv => cbv
    refine br_t (by rw [cmp_eql hA]; rfl) ?_
    conv => cbv
    exact fun _ => ⟨rfl, 0, rfl, by rw [hCX, cmpt, if_pos hX0]; rfl⟩
  have hnA1 : 1 ≤ nA := by rw [hr.len]; exact (cn_len X hX0).1
  refine br_f (by rw [oA, cmp_eql hA]; simp; omega) ?_
  conv => cbv
  refine br_f (by rw [cmp_eql hA]; rfl) ?_
  conv => cbv
  refine bytesC hP Rc aA nA cA X hr hcA hnA (by omega) ?_
  intro ab L zs hL hzs
  conv => cbv
  have oL := ofN_ hA L
  have eLu : cnv .u64 (ofN L) = (L : Int) := by rw [oL]; exact cnv_u64 hA (by omega)
  have hL1 := (dl_len X hX0).1
  by_cases h3 : L ≤ 3
  · refine br_t (by rw [eLu, cmp_leq hA]; simp; omega) ?_
    conv => cbv
    have hX24 : X < 16777216 := by
      have h1 := dl_lt X
      have h2 := Nat.pow_le_pow_right (show 0 < 256 by decide) (show (dl X).length ≤ 3 by omega)
      simp only [Nat.reducePow] at h2
      omega
    refine bits1 hP Rc aA nA cA X hr hcA hX0 hX24 _ ?_
    intro aw bc zw wv hzw hwv
    conv => cbv
    refine ⟨by decide, by rw [ofN_ hA]; decide, rfl, ?_⟩
    refine ld_row hA 0 (r := ⟨some aw, 1, bc, 104, 1, zw⟩) rfl rfl rfl (v := .int .u64 wv) (by show zw[_]? = _; rw [hzw]; rfl) ?_
    conv => cbv
    have es1 : bin .mul .u64 8 (bin .sub .u64 3 (cnv .u64 (ofN L))) = ((8 * (3 - L) : Nat) : Int) := by
      have e1 : bin .sub .u64 3 (cnv .u64 (ofN L)) = ((3 - L : Nat) : Int) := by rw [eLu, sub_u64 hA (by omega)]; omega
      rw [e1, mul_u64 hA (by omega)]
      omega
    refine ⟨by rw [es1]; omega, ?_⟩
    have hmx : bin .shl .u32 (cnv .u32 wv) (bin .mul .u64 8 (bin .sub .u64 3 (cnv .u64 (ofN L)))) = ((man X : Nat) : Int) := by
      rw [hwv, cnv_u32 hA (by omega), es1, shw_u32 hA (by omega), ← pw8]
      have e1 : man X = X * 256 ^ (3 - L) := by rw [man, if_pos (by omega), ← hL]
      rw [← e1, Nat.mod_eq_of_lt (by have := man_lt X; omega)]
    have hml := man_lt X
    have em1 : bin .shl .u32 (cnv .u32 wv) (bin .mul .u64 8 (bin .sub .u64 3 (cnv .u64 (ofN L)))) = ((man X : Nat) : Int) := hmx
    have eand : bin .and .u32 (bin .shl .u32 (cnv .u32 wv) (bin .mul .u64 8 (bin .sub .u64 3 (cnv .u64 (ofN L))))) 8388608 = ((man X &&& 8388608 : Nat) : Int) := by rw [em1]; exact and_u32 hA (y := 8388608) (by omega) (by decide)
    have hb23 := bit23 hml
    have hLn : L ≤ 1000 := by omega
    by_cases h23 : 8388608 ≤ man X
    · refine br_t (by rw [eand, cmp_neq hA]; exact bne_iff_ne.2 (Int.natCast_ne_zero.2 (hb23.2 h23))) ?_
      conv => cbv
      refine ⟨by decide, ?_⟩
      refine ⟨by decide, ?_⟩
      have e1 : bin .shr .u32 (bin .shl .u32 (cnv .u32 wv) (bin .mul .u64 8 (bin .sub .u64 3 (cnv .u64 (ofN L))))) 8 = ((man X / 256 : Nat) : Int) := by rw [em1, shr_u32 hA (by decide)]; show ((man X : Nat) : Int) / 2 ^ 8 = _; omega
      have e2 : bin .add .u64 (cnv .u64 (ofN L)) 1 = ((L + 1 : Nat) : Int) := by rw [eLu, add_u64 hA (by omega)]; rfl
      have e3 : cnv .u32 (bin .shl .u64 (bin .add .u64 (cnv .u64 (ofN L)) 1) 24) = (((L + 1) * 16777216 % 4294967296 : Nat) : Int) := by
        rw [e2]
        have e4 := shw_u64 hA (x := L + 1) (y := 24) (by decide)
        rw [Nat.mod_eq_of_lt (by omega)] at e4
        exact (congrArg (cnv .u32) e4).trans (cu32 (cnv_is hA) _)
      refine callP_in (fz := []) hP hA Try.func46 rfl (by decide) rfl ok46 (by simp [labL, lab]) ?_
      conv => cbv
      refine br_f (by rw [oA, cmp_eql hA]; simp; omega) ?_
      conv => cbv
      refine br_f (by rw [cmp_lss hA]; rfl) ?_
      conv => cbv
      refine fun _ => ⟨rfl, _, rfl, ?_⟩
      rw [e3, e1, or_u32 hA (by omega) (by omega), hCX, cmpt, if_neg hX0, if_pos h23, ← hL]
      rw [show (L + 1) * 16777216 % 4294967296 = 2 ^ 24 * ((L + 1) % 256) by omega, ← Nat.two_pow_add_eq_or_of_lt (by omega)]
      have : L + 1 < 256 := by omega
      rw [Nat.mod_eq_of_lt this]
      congr 1
      omega
    refine br_f (by rw [eand, cmp_neq hA]; rw [show man X &&& 8388608 = 0 from Classical.byContradiction fun e => h23 (hb23.1 e)]; rfl) ?_
    conv => cbv
    refine ⟨by decide, ?_⟩
    have e3 : cnv .u32 (bin .shl .u64 (cnv .u64 (ofN L)) 24) = ((L * 16777216 % 4294967296 : Nat) : Int) := by
      rw [eLu]
      have e4 := shw_u64 hA (x := L) (y := 24) (by decide)
      rw [Nat.mod_eq_of_lt (by omega)] at e4
      exact (congrArg (cnv .u32) e4).trans (cu32 (cnv_is hA) _)
    refine callP_in (fz := []) hP hA Try.func46 rfl (by decide) rfl ok46 (by simp [labL, lab]) ?_
    conv => cbv
    refine br_f (by rw [oA, cmp_eql hA]; simp; omega) ?_
    conv => cbv
    refine br_f (by rw [cmp_lss hA]; rfl) ?_
    conv => cbv
    refine fun _ => ⟨rfl, _, rfl, ?_⟩
    rw [e3, em1, or_u32 hA (by omega) (by omega), hCX, cmpt, if_neg hX0, if_neg h23, ← hL]
    rw [show L * 16777216 % 4294967296 = 2 ^ 24 * (L % 256) by omega, ← Nat.two_pow_add_eq_or_of_lt (by omega)]
    have : L < 256 := by omega
    rw [Nat.mod_eq_of_lt this]
    congr 1
    omega
  refine br_f (by rw [eLu, cmp_leq hA]; simp; omega) ?_
  conv => cbv
  refine callP_in (fz := []) hP hA Try.func29 rfl (by decide) rfl ok29 (by simp [labL, lab]) ?_
  conv => cbv
  refine ⟨[0, 1, 2, 3, 4, 5, 6, 7, 8, 9, 10, 11, 12, 13, 14, 15], [12, 15], mix hP, by kernel_rfl, ?_⟩
  conv => cbv
  have es2 : bin .mul .u64 8 (bin .sub .u64 (cnv .u64 (ofN L)) 3) = ((8 * (L - 3) : Nat) : Int) := by
    have e1 : bin .sub .u64 (cnv .u64 (ofN L)) 3 = ((L - 3 : Nat) : Int) := by rw [eLu, sub_u64 hA (by omega)]; omega
    rw [e1, mul_u64 hA (by omega)]
    omega
  have hmY : X / 2 ^ (8 * (L - 3)) = man X := by rw [man, if_neg (by omega), ← hL, pw8]
  refine callP_in (fz := []) hP hA Try.func49 rfl (by decide) rfl ok49 (by simp [labL, lab]) ?_
  conv => cbv
  refine (rshP hP Rc aA nA cA X (8 * (L - 3)) _ es2 hr hcA (by have := cn_len X hX0; have h1 := hr.len; have h2 := dl_lt X; rw [pw8] at h2; rw [pw] at this; have h3 := (Nat.pow_lt_pow_iff_right (by decide : 1 < 2)).1 (Nat.lt_of_le_of_lt this.2 h2); omega) (by omega)).callP rfl ?_
  rintro R2 _ hR2 ⟨aB, nB, cB, rfl, hr2, hc2⟩
  rw [hmY] at hr2
  conv => cbv
  refine bits2 hP R2 aA nA cA aB nB cB (man X) hr2 hc2 (by have := man_pos hX0; omega) (man_lt X) _ ?_
  intro aw bc zw wv hzw hwv
  conv => cbv
  refine ⟨by decide, by rw [ofN_ hA]; decide, rfl, ?_⟩
  refine ld_row hA 0 (r := ⟨some aw, 1, bc, 104, 1, zw⟩) rfl rfl rfl (v := .int .u64 wv) (by show zw[_]? = _; rw [hzw]; rfl) ?_
  conv => cbv
  have hmx : cnv .u32 wv = ((man X : Nat) : Int) := by rw [hwv]; exact cnv_u32 hA (by have := man_lt X; omega)
  have hml := man_lt X
  have em1 : cnv .u32 wv = ((man X : Nat) : Int) := hmx
  have eand : bin .and .u32 (cnv .u32 wv) 8388608 = ((man X &&& 8388608 : Nat) : Int) := by rw [em1]; exact and_u32 hA (y := 8388608) (by omega) (by decide)
  have hb23 := bit23 hml
  have hLn : L ≤ 1000 := by omega
  by_cases h23 : 8388608 ≤ man X
  · refine br_t (by rw [eand, cmp_neq hA]; exact bne_iff_ne.2 (Int.natCast_ne_zero.2 (hb23.2 h23))) ?_
    conv => cbv
    refine ⟨by decide, ?_⟩
    refine ⟨by decide, ?_⟩
    have e1 : bin .shr .u32 (cnv .u32 wv) 8 = ((man X / 256 : Nat) : Int) := by rw [em1, shr_u32 hA (by decide)]; show ((man X : Nat) : Int) / 2 ^ 8 = _; omega
    have e2 : bin .add .u64 (cnv .u64 (ofN L)) 1 = ((L + 1 : Nat) : Int) := by rw [eLu, add_u64 hA (by omega)]; rfl
    have e3 : cnv .u32 (bin .shl .u64 (bin .add .u64 (cnv .u64 (ofN L)) 1) 24) = (((L + 1) * 16777216 % 4294967296 : Nat) : Int) := by
      rw [e2]
      have e4 := shw_u64 hA (x := L + 1) (y := 24) (by decide)
      rw [Nat.mod_eq_of_lt (by omega)] at e4
      exact (congrArg (cnv .u32) e4).trans (cu32 (cnv_is hA) _)
    refine callP_in (fz := []) hP hA Try.func46 rfl (by decide) rfl ok46 (by simp [labL, lab]) ?_
    conv => cbv
    refine br_f (by rw [oA, cmp_eql hA]; simp; omega) ?_
    conv => cbv
    refine br_f (by rw [cmp_lss hA]; rfl) ?_
    conv => cbv
    refine fun _ => ⟨rfl, _, rfl, ?_⟩
    rw [e3, e1, or_u32 hA (by omega) (by omega), hCX, cmpt, if_neg hX0, if_pos h23, ← hL]
    rw [show (L + 1) * 16777216 % 4294967296 = 2 ^ 24 * ((L + 1) % 256) by omega, ← Nat.two_pow_add_eq_or_of_lt (by omega)]
    have : L + 1 < 256 := by omega
    rw [Nat.mod_eq_of_lt this]
    congr 1
    omega
  refine br_f (by rw [eand, cmp_neq hA]; rw [show man X &&& 8388608 = 0 from Classical.byContradiction fun e => h23 (hb23.1 e)]; rfl) ?_
  conv => cbv
  refine ⟨by decide, ?_⟩
  have e3 : cnv .u32 (bin .shl .u64 (cnv .u64 (ofN L)) 24) = ((L * 16777216 % 4294967296 : Nat) : Int) := by
    rw [eLu]
    have e4 := shw_u64 hA (x := L) (y := 24) (by decide)
    rw [Nat.mod_eq_of_lt (by omega)] at e4
    exact (congrArg (cnv .u32) e4).trans (cu32 (cnv_is hA) _)
  refine callP_in (fz := []) hP hA Try.func46 rfl (by decide) rfl ok46 (by simp [labL, lab]) ?_
  conv => cbv
  refine br_f (by rw [oA, cmp_eql hA]; simp; omega) ?_
  conv => cbv
  refine br_f (by rw [cmp_lss hA]; rfl) ?_
  conv => cbv
  refine fun _ => ⟨rfl, _, rfl, ?_⟩
  rw [e3, em1, or_u32 hA (by omega) (by omega), hCX, cmpt, if_neg hX0, if_neg h23, ← hL]
  rw [show L * 16777216 % 4294967296 = 2 ^ 24 * (L % 256) by omega, ← Nat.two_pow_add_eq_or_of_lt (by omega)]
  have : L < 256 := by omega
  rw [Nat.mod_eq_of_lt this]
  congr 1
  omega
end Go.Proofs.Ytekoipmmmoofpaa.Co
