/- Great numbers: the compact number of one. -/
import Derived.Test.YtekoipmmmoofpaaCoc
import Derived.Test.YtekoipmmmoofpaaSl
import Derived.Test.YtekoipmmmoofpaaProg
import Derived.KernelRfl
-- merged
/- The types that some functions name, as the evaluator wants them. Printed by a program of my own (seatgen.py). -/
namespace Go.Proofs.Ytekoipmmmoofpaa.Tycq
open Go Go.Se Go.Proofs

/-- int -/
def y3 : Ty := ⟨.int .i64, 1, false, .int .i64 0, 8⟩
theorem ty3 : tyOf Try.prog 3 = some y3 := by kernel_rfl
/-- bool -/
def y4 : Ty := ⟨.bool, 1, false, .bool false, 1⟩
theorem ty4 : tyOf Try.prog 4 = some y4 := by kernel_rfl
/-- uint8 -/
def y5 : Ty := ⟨.int .u8, 1, false, .int .u8 0, 1⟩
theorem ty5 : tyOf Try.prog 5 = some y5 := by kernel_rfl
/-- string -/
def y9 : Ty := ⟨.str, 1, false, .string ByteArray.empty, 16⟩
theorem ty9 : tyOf Try.prog 9 = some y9 := by kernel_rfl
/-- []uint8 -/
def y22 : Ty := ⟨.slc 5, 1, false, .slice none 0 0, 24⟩
theorem ty22 : tyOf Try.prog 22 = some y22 := by kernel_rfl
/-- uint32 -/
def y23 : Ty := ⟨.int .u32, 1, false, .int .u32 0, 4⟩
theorem ty23 : tyOf Try.prog 23 = some y23 := by kernel_rfl
/-- big.nat -/
def y85 : Ty := ⟨.slc 23, 1, false, .slice none 0 0, 24⟩
theorem ty85 : tyOf Try.prog 85 = some y85 := by kernel_rfl
/-- big.Int -/
def y87 : Ty := ⟨.stc [(0, 4), (1, 85)], 2, true, .agg #[.bool false, .slice none 0 0], 32⟩
theorem ty87 : tyOf Try.prog 87 = some y87 := by kernel_rfl
/-- big.Word -/
def y104 : Ty := ⟨.int .u64, 1, false, .int .u64 0, 8⟩
theorem ty104 : tyOf Try.prog 104 = some y104 := by kernel_rfl
/-- []big.Word -/
def y105 : Ty := ⟨.slc 104, 1, false, .slice none 0 0, 24⟩
theorem ty105 : tyOf Try.prog 105 = some y105 := by kernel_rfl

/-- function 31: (*pub-mintmark/pub/smallbig.Int).SetBytes -/
def tys31 : Nat → Option Ty := fun t => find [(22, y22), (5, y5), (3, y3), (85, y85), (23, y23), (87, y87), (4, y4)] t
theorem ok31 : TysOk Try.prog tys31 := tysOk_of ⟨ty22, ty5, ty3, ty85, ty23, ty87, ty4, trivial⟩

/-- function 47: (*pub-mintmark/pub/smallbig.Int).Bytes -/
def tys47 : Nat → Option Ty := fun t => find [(87, y87), (4, y4), (85, y85), (23, y23), (3, y3), (22, y22), (5, y5)] t
theorem ok47 : TysOk Try.prog tys47 := tysOk_of ⟨ty87, ty4, ty85, ty23, ty3, ty22, ty5, trivial⟩

/-- function 48: (*pub-mintmark/pub/smallbig.Int).Bits -/
def tys48 : Nat → Option Ty := fun t => find [(87, y87), (4, y4), (85, y85), (23, y23), (3, y3), (105, y105), (104, y104)] t
theorem ok48 : TysOk Try.prog tys48 := tysOk_of ⟨ty87, ty4, ty85, ty23, ty3, ty105, ty104, trivial⟩

/-- function 53: (*pub-mintmark/pub/smallbig.Int).FillBytes -/
def tys53 : Nat → Option Ty := fun t => find [(22, y22), (5, y5), (87, y87), (4, y4), (85, y85), (23, y23), (3, y3), (9, y9)] t
theorem ok53 : TysOk Try.prog tys53 := tysOk_of ⟨ty22, ty5, ty87, ty4, ty85, ty23, ty3, ty9, trivial⟩
end Go.Proofs.Ytekoipmmmoofpaa.Tycq
set_option linter.unusedSimpArgs false
set_option linter.unusedVariables false
namespace Go.Proofs.Ytekoipmmmoofpaa.Co
open Go Go.Se Go.Proofs Go.Proofs.Ytekoipmmmoofpaa.Ht Go.Proofs.Ytekoipmmmoofpaa.Tycq

theorem mix {P : Program} (hP : P = Try.prog) : P.follows .mixedOrders = true := by subst hP; rfl

theorem pw8 (p : Nat) : 256 ^ p = 2 ^ (8 * p) := by rw [show 256 = 2 ^ 8 by decide, ← Nat.pow_mul]

theorem bl_bytes {X k : Nat} (h : Bl X k) : (k + 7) / 8 = (dl X).length := by
  rcases h with ⟨rfl, rfl⟩ | ⟨h1, h2, h3⟩
  · rw [dl0]; rfl
  · have h0 : X ≠ 0 := by have := Nat.pow_pos (n := k - 1) (show 0 < 2 by decide); omega
    obtain ⟨a, b⟩ := dl_len X h0
    have c := dl_lt X
    rw [pw8] at b c
    have e1 : 8 * ((dl X).length - 1) < k := (Nat.pow_lt_pow_iff_right (by decide : 1 < 2)).1 (Nat.lt_of_le_of_lt b h3)
    have e2 : k - 1 < 8 * (dl X).length := (Nat.pow_lt_pow_iff_right (by decide : 1 < 2)).1 (Nat.lt_of_le_of_lt h2 c)
    omega

theorem cn_bytes {X : Nat} (k : Nat) (hk : k < (dl X).length) : k / 4 < (cn X).length := by
  have h0 : X ≠ 0 := fun e => by rw [e, dl0] at hk; simp at hk
  obtain ⟨a, b⟩ := dl_len X h0
  have c := cn_lt X
  rw [pw8] at b
  rw [pw] at c
  have e1 : 8 * ((dl X).length - 1) < 32 * (cn X).length := (Nat.pow_lt_pow_iff_right (by decide : 1 < 2)).1 (Nat.lt_of_le_of_lt b c)
  omega

theorem byte_of (X k : Nat) : X / 4294967296 ^ (k / 4) % 4294967296 / 2 ^ (8 * (k % 4)) % 256 = X / 256 ^ k % 256 := by
  have e : 256 ^ k = 4294967296 ^ (k / 4) * 2 ^ (8 * (k % 4)) := by rw [pw, pw8, ← Nat.pow_add]; congr 1; omega
  rw [e, ← Nat.div_div_eq_div_mul]
  obtain ⟨Y, hY⟩ : ∃ Y, Y = X / 4294967296 ^ (k / 4) := ⟨_, rfl⟩
  rw [← hY]
  have h : k % 4 = 0 ∨ k % 4 = 1 ∨ k % 4 = 2 ∨ k % 4 = 3 := by omega
  rcases h with h | h | h | h <;> (rw [h]; simp only [Nat.reduceMul, Nat.reducePow]; omega)

/-- The three highest bytes. -/
def man (X : Nat) : Nat := if (dl X).length ≤ 3 then X * 256 ^ (3 - (dl X).length) else X / 256 ^ ((dl X).length - 3)

/-- The compact number of one. -/
def cmpt (X : Nat) : Nat := if X = 0 then 0 else if 8388608 ≤ man X then ((dl X).length + 1) * 16777216 + man X / 256 else (dl X).length * 16777216 + man X

theorem man_lt (X : Nat) : man X < 16777216 := by
  have c := dl_lt X
  rw [man]
  split
  · have e : 256 ^ (dl X).length * 256 ^ (3 - (dl X).length) = 16777216 := by rw [← Nat.pow_add, show (dl X).length + (3 - (dl X).length) = 3 by omega]
    rw [← e]
    exact Nat.mul_lt_mul_of_pos_right c (Nat.pow_pos (by decide))
  · rw [Nat.div_lt_iff_lt_mul (Nat.pow_pos (by decide))]
    have e : 16777216 * 256 ^ ((dl X).length - 3) = 256 ^ (dl X).length := by rw [show 16777216 = 256 ^ 3 by decide, ← Nat.pow_add, show 3 + ((dl X).length - 3) = (dl X).length by omega]
    omega

theorem man_pos {X : Nat} (h : X ≠ 0) : 65536 ≤ man X := by
  obtain ⟨a, b⟩ := dl_len X h
  rw [man]
  split
  · have e : 256 ^ ((dl X).length - 1) * 256 ^ (3 - (dl X).length) = 65536 := by rw [← Nat.pow_add, show (dl X).length - 1 + (3 - (dl X).length) = 2 by omega]
    rw [← e]
    exact Nat.mul_le_mul_right _ b
  · rw [Nat.le_div_iff_mul_le (Nat.pow_pos (by decide))]
    have e : 65536 * 256 ^ ((dl X).length - 3) = 256 ^ ((dl X).length - 1) := by rw [show 65536 = 256 ^ 2 by decide, ← Nat.pow_add, show 2 + ((dl X).length - 3) = (dl X).length - 1 by omega]
    omega

theorem bit23 {m : Nat} (h : m < 16777216) : (m &&& 8388608 ≠ 0) ↔ 8388608 ≤ m := by
  constructor
  · intro h1
    refine Nat.le_of_not_lt fun h2 => h1 ?_
    apply Nat.eq_of_testBit_eq
    intro i
    rw [Nat.testBit_and, Nat.zero_testBit]
    by_cases e : i = 23
    · subst e
      rw [Nat.testBit_lt_two_pow (show m < 2 ^ 23 from h2)]
      rfl
    · rw [show 8388608 = 2 ^ 23 by decide, Nat.testBit_two_pow_of_ne (Ne.symm e), Bool.and_false]
  · intro h2 h0
    have h3 := congrArg (fun x => Nat.testBit x 23) h0
    simp only [Nat.testBit_and, Nat.zero_testBit] at h3
    have h4 : Nat.testBit m 23 = true := by rw [Nat.testBit_eq_decide_div_mod_eq]; exact decide_eq_true (by omega)
    rw [h4] at h3
    exact absurd h3 (by decide)

section
variable {cnv : IntKind → Int → Int} (hc : cnv = Ar.real.conv)
include hc
theorem cu8 (x : Nat) : cnv .u8 x = ((x % 256 : Nat) : Int) := by
  rw [hc]
  show IntKind.u8.wrap (x : Int) = _
  simp [IntKind.wrap, IntKind.bits, IntKind.signed]
end

section
variable {bin : BinOp → IntKind → Int → Int → Int} {cmp : BinOp → Int → Int → Bool} {cnv : IntKind → Int → Int} {neg : IntKind → Int → Int} {com : IntKind → Int → Int} {bnot : Bool → Bool} {beq : Bool → Bool → Bool} {ofN : Nat → Int} {toN : Int → Nat} {at_ : Nat → Nat → Nat → Nat} {sub_ : Nat → Nat → Nat} {scmp : BinOp → ByteArray → ByteArray → Bool} {cat : ByteArray → ByteArray → ByteArray} {sget : ByteArray → Int → Int} {ssz : ByteArray → Nat} {ssub : ByteArray → Nat → Nat → ByteArray} {elem : Option Addr → Int → Nat → Addr} {fld_ : Addr → Nat → Addr}
  (hA : (⟨bin, cmp, cnv, neg, com, bnot, beq, ofN, toN, at_, sub_, scmp, cat, sget, ssz, ssub, elem, fld_⟩ : Ar) = Ar.real)
include hA

/-- Bits are put below others. -/
theorem orhi {A c s e : Nat} {si : Int} (hsi : si = s) (hse : s < 32) (hc : c * 2 ^ s < 2 ^ e) (hd : 2 ^ e * A < 4294967296) (he : c * 2 ^ s < 4294967296) : bin .or .u32 ((2 ^ e * A : Nat) : Int) (bin .shl .u32 (c : Int) si) = ((2 ^ e * A + c * 2 ^ s : Nat) : Int) := by
  rw [hsi, shw_u32 hA hse, Nat.mod_eq_of_lt he, or_u32 hA (by omega) (by omega), Nat.two_pow_add_eq_or_of_lt hc]
end


set_option maxRecDepth 100000 in
set_option maxHeartbeats 4000000 in
/-- A number's bytes. -/
theorem bytesC {P : Program} (hP : P = Try.prog) (Rc : RO) (aA : Option Addr) (nA cA X : Nat) (hr : RI Rc .u32 aA nA (cn X)) (hcA : nA ≤ cA) (hnA : nA ≤ 100000) (hLs : (dl X).length ≤ 100000) {K : RO → List (Nat × HB) → Nat → List Row → SV → Prop}
    (hg : ∀ (ab : Addr) (L : Nat) (zs : List Value), L = (dl X).length → zs = ints .u8 (dl X).reverse → K Rc [(0, ⟨87, [.v (.bool false), .v (.slice aA nA cA)]⟩)] 1 [⟨some ab, L, L, 5, 1, zs⟩] (.v (.slice (some ab) L L))) :
    CallP P 47 [.p 0 0] Rc [(0, ⟨87, [.v (.bool false), .v (.slice aA nA cA)]⟩)] 1 [] K := by
  subst hP
  refine callP_of_vc (fz := []) Try.func47 rfl (by decide) (Nat.le_of_ble_eq_true rfl) ok47 (by simp [labL, lab]) ?_
  rintro P ⟨bin, cmp, cnv, neg, com, bnot, beq, ofN, toN, at_, sub_, scmp, cat, sget, ssz, ssub, elem, fld_⟩ hP hA
  conv => cbv
  refine (bitLenP hP Rc aA nA cA X hr hnA).callQ rfl ?_
  rintro _ ⟨kb, kn, rfl, hkb, hbl⟩
  conv => cbv
  refine ⟨by decide, ?_⟩
  have hLk := bl_bytes hbl
  have ebl : bin .quo .i64 (bin .add .i64 kb 7) 8 = ((dl X).length : Int) := by rw [hkb, add_i64 hA (by omega), quo_i64 hA (by omega) (by omega) (by decide)]; omega
  refine ⟨by rw [ebl]; omega, by rw [ebl]; omega, by rw [ebl]; omega, by rw [ebl]; omega, ?_⟩
  intro ab nb cb zb hnb hcb hzb
  rw [ebl] at hnb hcb
  obtain ⟨L, hL⟩ : ∃ L, L = (dl X).length := ⟨_, rfl⟩
  obtain ⟨T, hT⟩ : ∃ T, T = (dl X).reverse := ⟨_, rfl⟩
  obtain rfl : L = nb := by omega
  obtain rfl : L = cb := by omega
  rw [zeros] at hzb
  conv => cbv
  refine callP_in (fz := []) hP hA Try.func53 rfl (by decide) rfl ok53 (by simp [labL, lab]) ?_
  conv => cbv
  refine (bitLenP hP Rc aA nA cA X hr hnA).callQ rfl ?_
  rintro _ ⟨kb2, kn2, rfl, hkb2, hbl2⟩
  conv => cbv
  refine ⟨by decide, ?_⟩
  have hLk2 := bl_bytes hbl2
  have ebl2 : bin .quo .i64 (bin .add .i64 kb2 7) 8 = ((dl X).length : Int) := by rw [hkb2, add_i64 hA (by omega), quo_i64 hA (by omega) (by omega) (by decide)]; omega
  have oL := ofN_ hA L
  have oA := ofN_ hA nA
  have hlA := hr.len
  refine br_f (by rw [ebl2, oL, cmp_lss hA]; simp; omega) ?_
  conv => cbv
  refine ⟨Lz, fun x => ⟨[(20, .v (.int .i64 x.i)), (19, .v (.int .i64 (ofN L))), (1, .v (.slice (some ab) L L)), (0, .p 0 0)], Rc, [(0, ⟨87, [.v (.bool false), .v (.slice aA nA cA)]⟩)], 1, [⟨some ab, L, L, 5, 1, x.zs⟩]⟩,
    fun m x => ∃ (i : Nat) (ys : List Int), x.i = i ∧ i ≤ L ∧ m = L - i ∧ x.zs = ints .u8 ys ∧ ys.length = L ∧ ∀ j, j < i → ys[j]? = T[j]?,
    ⟨L, ⟨0, zb⟩, ⟨⟨rfl, rfl, rfl, rfl, trivial⟩, rfl, ⟨rfl, trivial⟩, rfl, .refl _⟩, 0, _, rfl, by omega, rfl, hzb, by simp, fun j hj => absurd hj (by omega)⟩, ?_⟩
  rintro m ⟨ii, zs⟩ ⟨i, ys, hi, hin, hm, hzs, hyl, hyj⟩
  simp only at hi hzs
  conv => cbv
  by_cases hlt : i < L
  · refine br_t (by rw [oL, cmp_lss hA]; simp; omega) ?_
    conv => cbv
    have ek : bin .sub .i64 (bin .sub .i64 (ofN L) 1) ii = ((L - 1 - i : Nat) : Int) := by
      have e1 : bin .sub .i64 (ofN L) 1 = (L : Int) - 1 := by rw [oL]; exact sub_i64 hA (by omega)
      rw [e1, hi, sub_i64 hA (by omega)]
      omega
    obtain ⟨k, hk⟩ : ∃ k, k = L - 1 - i := ⟨_, rfl⟩
    rw [← hk] at ek
    have eq4 : bin .quo .i64 (bin .sub .i64 (bin .sub .i64 (ofN L) 1) ii) 4 = ((k / 4 : Nat) : Int) := by rw [ek, quo_i64 hA (by omega) (by omega) (by decide)]; omega
    have er4 : bin .mul .i64 8 (bin .rem .i64 (bin .sub .i64 (bin .sub .i64 (ofN L) 1) ii) 4) = ((8 * (k % 4) : Nat) : Int) := by
      have e1 : bin .rem .i64 (bin .sub .i64 (bin .sub .i64 (ofN L) 1) ii) 4 = ((k % 4 : Nat) : Int) := by rw [ek, rem_i64 hA (by omega)]; omega
      rw [e1, mul_i64 hA (by omega)]
      omega
    have hkA : k / 4 < nA := by rw [hlA]; exact cn_bytes k (by omega)
    refine ⟨by rw [hi]; omega, by rw [hi, ofN_ hA]; omega, rfl, ?_⟩
    refine ⟨0, _, ab, i, rfl, rfl, by rw [elem_is hA, hi]; show ab.add (((i : Nat) : Int).toNat * 1) = _; rw [Nat.mul_one, Int.toNat_natCast], by show i + 1 ≤ zs.length; rw [hzs, ints_len, hyl]; omega, ?_⟩
    intro z1 hz1
    have hz1' : z1 = ints .u8 (ys.set i 0) := by
      rw [hz1, hzs]
      exact ints_set _ _ _ _ (by omega)
    conv => cbv
    refine ⟨by decide, ?_⟩
    refine br_t (by rw [eq4, oA, cmp_lss hA]; simp; omega) ?_
    conv => cbv
    refine ⟨by decide, ?_⟩
    refine ix_ri hr oA (k / 4) eq4 hkA ?_
    refine ld_ri hA hr (by rw [eq4]; omega) (by rw [eq4]; omega) ?_
    intro d hd hdw
    rw [eq4] at hd
    have hd' : (cn X)[k / 4]? = some d := by rw [getD_get (by omega), hd]; rfl
    have hdv := cn_get hd'
    conv => cbv
    refine ⟨by decide, ?_⟩
    refine ⟨by rw [er4]; omega, ?_⟩
    have ee : cnv .u8 (bin .shr .u32 d (bin .mul .i64 8 (bin .rem .i64 (bin .sub .i64 (bin .sub .i64 (ofN L) 1) ii) 4))) = ((X / 256 ^ k % 256 : Nat) : Int) := by
      rw [er4, hdv, shn_u32 hA (by omega), cu8 (cnv_is hA), byte_of]
    refine ⟨by rw [hi]; omega, by rw [hi, ofN_ hA]; omega, rfl, ?_⟩
    refine ⟨0, _, ab, i, rfl, rfl, by rw [elem_is hA, hi]; show ab.add (((i : Nat) : Int).toNat * 1) = _; rw [Nat.mul_one, Int.toNat_natCast], by show i + 1 ≤ z1.length; rw [hz1', ints_len]; simp; omega, ?_⟩
    intro z2 hz2
    have hz2' : z2 = ints .u8 (ys.set i ((X / 256 ^ k % 256 : Nat) : Int)) := by
      rw [hz2]
      show List.take i z1 ++ [Value.int .u8 _] ++ List.drop (i + 1) z1 = _
      rw [hz1', ee]
      exact (ints_set _ _ _ _ (by simp; omega)).trans (by rw [List.set_set])
    conv => cbv
    refine ⟨L - (i + 1), ⟨bin .add .i64 ii 1, z2⟩, by omega, ⟨⟨rfl, rfl, rfl, rfl, trivial⟩, rfl, ⟨rfl, trivial⟩, rfl, .refl _⟩, i + 1, _, by show bin .add .i64 ii 1 = _; rw [hi, add_i64 hA (by omega)]; rfl, by omega, rfl, hz2', by simp [hyl], fun j hj => ?_⟩
    rw [List.getElem?_set]
    by_cases hji : i = j
    · subst hji
      rw [if_pos rfl, if_pos (by omega), hT, List.getElem?_reverse (by omega), ← hL, ← hk, getD_get (by omega)]
      congr 1
      exact (dl_get X k _ (getD_get (by omega))).symm
    · rw [if_neg hji]
      exact hyj j (by omega)
  refine br_f (by rw [oL, cmp_lss hA]; simp; omega) ?_
  conv => cbv
  have hzT : zs = ints .u8 (dl X).reverse := by
    rw [hzs, ← hT]
    congr 1
    apply List.ext_getElem?
    intro j
    by_cases hj : j < i
    · exact hyj j hj
    · rw [List.getElem?_eq_none (by omega), List.getElem?_eq_none (by rw [hT]; simp; omega)]
  exact hg ab L zs hL hzT

set_option maxRecDepth 100000 in
set_option maxHeartbeats 8000000 in
/-- A number out of its bytes. -/
theorem setBytesC {P : Program} (hP : P = Try.prog) (R : RO) (a : Option Addr) (N c X : Nat) (xs : List Int) (h : RI R .u8 a N xs) (hc : N ≤ c) (hN : N ≤ 1000) (hx : xs = (dl X).reverse) {K : RO → List (Nat × HB) → Nat → List Row → SV → Prop}
    (hg : ∀ (Rc : RO) (aA : Option Addr) (nA cA : Nat), R.le Rc → RI Rc .u32 aA nA (cn X) → nA ≤ cA → K Rc [(0, ⟨87, [.v (.bool false), .v (.slice aA nA cA)]⟩)] 1 [] (.p 0 0)) :
    CallP P 31 [.p 0 0, .v (.slice a N c)] R [(0, ⟨87, [.v (.bool false), .v (.slice none 0 0)]⟩)] 1 [] K := by
  have hl := h.len
  have hdL : (dl X).length = N := by rw [hl, hx, List.length_reverse]
  subst hP
  refine callP_of_vc (fz := []) Try.func31 rfl (by decide) (Nat.le_of_ble_eq_true rfl) ok31 (by simp [labL, lab]) ?_
  rintro P ⟨bin, cmp, cnv, neg, com, bnot, beq, ofN, toN, at_, sub_, scmp, cat, sget, ssz, ssub, elem, fld_⟩ hP hA
  conv => cbv
  have o := ofN_ hA N
  refine ⟨by decide, ?_⟩
  obtain ⟨M, hM⟩ : ∃ M, M = (N + 3) / 4 := ⟨_, rfl⟩
  have eM : bin .quo .i64 (bin .add .i64 (ofN N) 3) 4 = (M : Int) := by rw [o, add_i64 hA (by omega), quo_i64 hA (by omega) (by omega) (by decide)]; omega
  refine ⟨by rw [eM]; omega, by rw [eM]; omega, by rw [eM]; omega, by rw [eM]; omega, ?_⟩
  intro az nz cz z hnz hcz hz
  rw [eM] at hnz hcz
  obtain rfl : M = nz := by omega
  obtain rfl : M = cz := by omega
  rw [zeros] at hz
  have oM := ofN_ hA M
  conv => cbv
  refine ⟨Lz, fun x => ⟨[(16, .v (.int .i64 x.i)), (15, .v (.int .i64 (ofN N))), (14, .v (.slice a N c)), (1, .v (.slice a N c)), (5, .v (.slice (some az) M M)), (0, .p 0 0)], R, [(0, ⟨87, [.v (.bool false), .v (.slice none 0 0)]⟩)], 1, [⟨some az, M, M, 23, 1, x.zs⟩]⟩,
    fun m x => ∃ (i : Nat) (ys : List Int), x.i = i ∧ i ≤ N ∧ m = N - i ∧ x.zs = ints .u32 ys ∧ ys.length = M ∧ Dg ys ∧ nv ys = X / 256 ^ (N - i) * 256 ^ (N - i),
    ⟨N, ⟨0, z⟩, ⟨⟨rfl, rfl, rfl, rfl, rfl, rfl, trivial⟩, rfl, ⟨rfl, trivial⟩, rfl, .refl _⟩, 0, _, rfl, by omega, rfl, hz, by simp, dg_zero _, by rw [nv_zero, Nat.sub_zero, Nat.div_eq_of_lt (by rw [← hdL]; exact dl_lt X), Nat.zero_mul]⟩, ?_⟩
  rintro m ⟨ii, zs⟩ ⟨i, ys, hi, hin, hm, hzs, hyl, hyd, hyn⟩
  simp only at hi hzs
  conv => cbv
  by_cases hlt : i < N
  · refine br_t (by rw [o, cmp_lss hA]; simp; omega) ?_
    conv => cbv
    refine ix_ri h o i hi hlt ?_
    refine ld_u8 hA h (by omega) (by omega) ?_
    intro cc hcc hcc0 hcc1
    have ek : bin .sub .i64 (bin .sub .i64 (ofN N) 1) ii = ((N - 1 - i : Nat) : Int) := by
      have e1 : bin .sub .i64 (ofN N) 1 = (N : Int) - 1 := by rw [o]; exact sub_i64 hA (by omega)
      rw [e1, hi, sub_i64 hA (by omega)]
      omega
    obtain ⟨k, hk⟩ : ∃ k, k = N - 1 - i := ⟨_, rfl⟩
    rw [← hk] at ek
    have hcv : cc = ((X / 256 ^ k % 256 : Nat) : Int) := by
      have e1 : xs[i]? = some cc := by
        rw [getD_get (by omega), hcc]
        congr 2
        omega
      rw [hx, List.getElem?_reverse (by omega), hdL, ← hk] at e1
      exact dl_get X k cc e1
    obtain ⟨q, hq⟩ : ∃ q, q = k / 4 := ⟨_, rfl⟩
    obtain ⟨s, hs⟩ : ∃ s, s = 8 * (k % 4) := ⟨_, rfl⟩
    have eq4 : bin .quo .i64 (bin .sub .i64 (bin .sub .i64 (ofN N) 1) ii) 4 = (q : Int) := by rw [ek, quo_i64 hA (by omega) (by omega) (by decide)]; omega
    have er4 : bin .mul .i64 8 (bin .rem .i64 (bin .sub .i64 (bin .sub .i64 (ofN N) 1) ii) 4) = (s : Int) := by
      have e1 : bin .rem .i64 (bin .sub .i64 (bin .sub .i64 (ofN N) 1) ii) 4 = ((k % 4 : Nat) : Int) := by rw [ek, rem_i64 hA (by omega)]; omega
      rw [e1, mul_i64 hA (by omega)]
      omega
    have hqM : q < M := by omega
    obtain ⟨d, hd⟩ : ∃ d, d = ys.getD q 0 := ⟨_, rfl⟩
    have hd' : ys[q]? = some d := by rw [getD_get (by omega), hd]
    have hdr := hyd d (List.mem_of_getElem? hd')
    have hdv := nv_get hyd q d hd'
    have hpk : 256 ^ (k + 1) = 4294967296 ^ q * 2 ^ (s + 8) := by rw [pw, pw8, ← Nat.pow_add]; congr 1; omega
    have hpk0 : 256 ^ k = 4294967296 ^ q * 2 ^ s := by rw [pw, pw8, ← Nat.pow_add]; congr 1; omega
    obtain ⟨A, hAA⟩ : ∃ A, A = X / 256 ^ (k + 1) := ⟨_, rfl⟩
    have hNi : N - i = k + 1 := by omega
    rw [hNi, ← hAA] at hyn
    obtain ⟨B, hB⟩ : ∃ B, d = ((2 ^ (s + 8) * B : Nat) : Int) := by
      refine ⟨A % 2 ^ (32 - (s + 8)), ?_⟩
      rw [hdv, hyn, hpk, ← Nat.mul_assoc, Nat.mul_comm A, Nat.mul_assoc, Nat.mul_div_cancel_left _ (Nat.pow_pos (by decide)), show 4294967296 = 2 ^ (s + 8) * 2 ^ (32 - (s + 8)) by rw [← Nat.pow_add, show s + 8 + (32 - (s + 8)) = 32 by omega], Nat.mul_comm A, Nat.mul_mod_mul_left]
    obtain ⟨C, hC⟩ : ∃ C, C = X / 256 ^ k % 256 := ⟨_, rfl⟩
    rw [← hC] at hcv
    have hCl : C < 256 := by omega
    have hCs : C * 2 ^ s < 2 ^ (s + 8) := by rw [Nat.pow_add, Nat.mul_comm]; exact Nat.mul_lt_mul_of_pos_left (by omega) (Nat.pow_pos (by decide))
    have hs32 : 2 ^ (s + 8) ≤ 4294967296 := by
      have : 2 ^ (s + 8) ≤ 2 ^ 32 := Nat.pow_le_pow_right (by decide) (by omega)
      simpa using this
    have eor : bin .or .u32 d (bin .shl .u32 (cnv .u32 cc) (bin .mul .i64 8 (bin .rem .i64 (bin .sub .i64 (bin .sub .i64 (ofN N) 1) ii) 4))) = d + ((C * 2 ^ s : Nat) : Int) := by
      rw [hcv, cnv_u32 hA (by omega), hB, orhi hA er4 (by omega) hCs (by omega) (by omega)]
      rfl
    conv => cbv
    refine ⟨[0, 1, 2, 3, 4, 5, 6, 7, 8, 9, 10, 11, 12, 13], [13], mix hP, by kernel_rfl, ?_⟩
    conv => cbv
    refine ⟨by decide, ?_⟩
    refine ⟨by rw [eq4]; omega, by rw [eq4, ofN_ hA]; omega, rfl, ?_⟩
    refine ld_row hA 0 (r := ⟨some az, M, M, 23, 1, zs⟩) rfl rfl rfl (v := .int .u32 d) (by show zs[_]? = _; rw [eq4, hzs, ints, List.getElem?_map, Int.toNat_natCast, hd']; rfl) ?_
    conv => cbv
    refine ⟨by decide, ?_⟩
    refine ⟨by rw [er4]; omega, ?_⟩
    refine ⟨by rw [eq4]; omega, by rw [eq4, ofN_ hA]; omega, rfl, ?_⟩
    refine ⟨0, _, az, q, rfl, rfl, by rw [elem_is hA, eq4]; show az.add (((q : Nat) : Int).toNat * 1) = _; rw [Nat.mul_one, Int.toNat_natCast], by show q + 1 ≤ zs.length; rw [hzs, ints_len, hyl]; omega, ?_⟩
    intro z2 hz2
    have hz2' : z2 = ints .u32 (ys.set q (d + ((C * 2 ^ s : Nat) : Int))) := by
      rw [hz2]
      show List.take q zs ++ [Value.int .u32 _] ++ List.drop (q + 1) zs = _
      rw [hzs, eor]
      exact ints_set _ _ _ _ (by omega)
    conv => cbv
    refine ⟨N - (i + 1), ⟨bin .add .i64 ii 1, z2⟩, by omega, ⟨⟨rfl, rfl, rfl, rfl, rfl, rfl, trivial⟩, rfl, ⟨rfl, trivial⟩, rfl, .refl _⟩, i + 1, _, by show bin .add .i64 ii 1 = _; rw [hi, add_i64 hA (by omega)]; rfl, by omega, rfl, hz2', by simp [hyl], dg_set hyd q ?_, ?_⟩
    · refine ⟨by omega, ?_⟩
      rw [hB] at hdr ⊢
      have h1 : 2 ^ (s + 8) * B + 2 ^ (s + 8) ≤ 4294967296 := by
        have h2 : 4294967296 = 2 ^ (s + 8) * 2 ^ (32 - (s + 8)) := by rw [← Nat.pow_add, show s + 8 + (32 - (s + 8)) = 32 by omega]
        have h3 : B < 2 ^ (32 - (s + 8)) := by
          refine Nat.lt_of_mul_lt_mul_left (a := 2 ^ (s + 8)) ?_
          rw [← h2]
          omega
        rw [← Nat.mul_succ, h2]
        exact Nat.mul_le_mul_left _ h3
      omega
    · rw [nv_set q d _ hd' hdr.1 (by omega), hyn, show N - (i + 1) = k by omega, Int.toNat_natCast]
      have e1 : X / 256 ^ k = 256 * A + C := by
        rw [hAA, Nat.pow_succ, ← Nat.div_div_eq_div_mul, hC]
        omega
      rw [e1, Nat.add_mul, Nat.pow_succ, hpk0]
      congr 1
      · rw [← Nat.mul_assoc, Nat.mul_comm (A * _) 256, ← Nat.mul_assoc]
      · rw [Nat.mul_assoc, Nat.mul_comm (2 ^ s)]
  refine br_f (by rw [o, cmp_lss hA]; simp; omega) ?_
  conv => cbv
  have hnX : nv ys = X := by rw [hyn, show N - i = 0 by omega]; simp
  refine CallP.pub 0 rfl (fun R1 hR1 hp1 => ?_) ⟨_, by rw [hP]; exact Try.func38, by decide, rfl⟩
  have hr1 : RI R1 .u32 (some az) M ys := hp1.ri hyl.symm (fun _ => rfl) rfl hzs hyd.wf
  refine (normP hP R1 (some az) M M ys hr1 (Nat.le_refl _) (by omega)).callP rfl ?_
  rintro Rc _ hRc ⟨aA, nA, cA, rfl, hr, hcA⟩
  rw [hnX] at hr
  conv => cbv
  exact hg Rc aA nA cA (RO.le_trans hR1 hRc) hr hcA

structure Lq where
  i : Int
  a : Option Addr
  n : Nat
  c : Nat
  rs : List Row

set_option maxRecDepth 100000 in
set_option maxHeartbeats 4000000 in
/-- The lowest word of a small number. -/
theorem bits1 {P : Program} (hP : P = Try.prog) (Rc : RO)  (aA : Option Addr) (nA cA Y : Nat) (hr : RI Rc .u32 aA nA (cn Y)) (hcA : nA ≤ cA) (hY0 : Y ≠ 0) (hY : Y < 16777216) (r2 : Row) {K : RO → List (Nat × HB) → Nat → List Row → SV → Prop}
    (hg : ∀ (aw : Addr) (bc : Nat) (zw : List Value) (wv : Int), zw = [.int .u64 wv] → wv = (Y : Nat) → K Rc [(0, ⟨87, [.v (.bool false), .v (.slice aA nA cA)]⟩)] 1 [⟨some aw, 1, bc, 104, 1, zw⟩, r2] (.v (.slice (some aw) 1 bc))) :
    CallP P 48 [.p 0 0] Rc [(0, ⟨87, [.v (.bool false), .v (.slice aA nA cA)]⟩)] 1 [r2] K := by
  have hnA11 : nA = 1 := by rw [hr.len, cn_one hY0 (by omega)]; rfl
  subst hP
  refine callP_of_vc (fz := []) Try.func48 rfl (by decide) (Nat.le_of_ble_eq_true rfl) ok48 (by simp [labL, lab]) ?_
  rintro P ⟨bin, cmp, cnv, neg, com, bnot, beq, ofN, toN, at_, sub_, scmp, cat, sget, ssz, ssub, elem, fld_⟩ hP hA
  conv => cbv
  refine ⟨Lq, fun x => ⟨[(4, .v (.int .i64 x.i)), (3, .v (.slice x.a x.n x.c)), (0, .p 0 0)], Rc, [(0, ⟨87, [.v (.bool false), .v (.slice aA nA cA)]⟩)], 1, x.rs⟩,
    fun m x => (m = 1 ∧ x.i = 0 ∧ x.a = none ∧ x.n = 0 ∧ x.c = 0 ∧ x.rs = [r2]) ∨ (m = 0 ∧ x.i = 2 ∧ x.n = 1 ∧ ∃ (aw : Addr) (zw : List Value) (wv : Int), x.a = some aw ∧ zw = [.int .u64 wv] ∧ wv = (Y : Nat) ∧ x.rs = [⟨some aw, 1, x.c, 104, 1, zw⟩, r2]),
    ⟨1, ⟨0, none, 0, 0, _⟩, ⟨⟨rfl, rfl, rfl, trivial⟩, rfl, ⟨rfl, trivial⟩, rfl, .refl _⟩, .inl ⟨rfl, rfl, rfl, rfl, rfl, rfl⟩⟩, ?_⟩
  rintro m ⟨bi, ba, bn, bc, brs⟩ hx
  simp only at hx
  have oY := ofN_ hA nA
  rcases hx with ⟨hm, hbi, rfl, rfl, rfl, rfl⟩ | ⟨hm, hbi, rfl, aw, zw, wv, rfl, hzw, hwv, rfl⟩
  · conv => cbv
    refine br_t (by rw [oY, cmp_lss hA]; simp; omega) ?_
    conv => cbv
    refine ⟨0, nA, hbi.symm, rfl, by omega, hcA, ?_⟩
    intro a5 n5 c5 hn5 hc5 ha5
    have h5 := hr.part' (l := 0) (m := nA) (by omega) (Nat.le_refl _) hn5 hcA ha5
    have e5 : ((cn Y).drop 0).take (nA - 0) = cn Y := by rw [List.drop_zero, List.take_of_length_le (by have := hr.len; omega)]
    rw [e5] at h5
    conv => cbv
    refine (low64P hP Rc a5 n5 c5 (cn Y) h5 (by omega)).callQ rfl ?_
    rintro _ ⟨w, rfl, hw⟩
    rw [nv_cn, Nat.mod_eq_of_lt (by omega)] at hw
    conv => cbv
    refine ⟨0, [], _, _, _, 1, [.int .u64 w], .nil, .refl _, .own _ _ _ _ _ _ rfl rfl rfl (by simp [Value.oneCell']), by omega, by omega, ?_⟩
    intro a6 n6 c6 z6 hn6 hz6 hs6
    obtain rfl : n6 = 1 := by omega
    obtain ⟨a6, rfl⟩ := Option.isSome_iff_exists.1 (hs6 (by omega))
    conv => cbv
    exact ⟨0, ⟨bin .add .i64 bi 2, some a6, 1, c6, _⟩, by omega, ⟨⟨rfl, rfl, rfl, trivial⟩, rfl, ⟨rfl, trivial⟩, rfl, .refl _⟩, .inr ⟨rfl, by show bin .add .i64 bi 2 = 2; rw [hbi, add_i64 hA (by omega)]; rfl, rfl, a6, z6, w, rfl, hz6, hw, rfl⟩⟩
  conv => cbv
  refine br_f (by rw [oY, cmp_lss hA]; simp; omega) ?_
  conv => cbv
  exact hg aw bc zw wv hzw hwv

set_option maxRecDepth 100000 in
set_option maxHeartbeats 4000000 in
/-- The lowest word of a small number. -/
theorem bits2 {P : Program} (hP : P = Try.prog) (Rc : RO) (aB : Option Addr) (nB cB : Nat) (aA : Option Addr) (nA cA Y : Nat) (hr : RI Rc .u32 aA nA (cn Y)) (hcA : nA ≤ cA) (hY0 : Y ≠ 0) (hY : Y < 16777216) (r2 : Row) {K : RO → List (Nat × HB) → Nat → List Row → SV → Prop}
    (hg : ∀ (aw : Addr) (bc : Nat) (zw : List Value) (wv : Int), zw = [.int .u64 wv] → wv = (Y : Nat) → K Rc [(1, ⟨87, [.v (.bool false), .v (.slice aA nA cA)]⟩), (0, ⟨87, [.v (.bool false), .v (.slice aB nB cB)]⟩)] 2 [⟨some aw, 1, bc, 104, 1, zw⟩, r2] (.v (.slice (some aw) 1 bc))) :
    CallP P 48 [.p 1 0] Rc [(1, ⟨87, [.v (.bool false), .v (.slice aA nA cA)]⟩), (0, ⟨87, [.v (.bool false), .v (.slice aB nB cB)]⟩)] 2 [r2] K := by
  have hnA11 : nA = 1 := by rw [hr.len, cn_one hY0 (by omega)]; rfl
  subst hP
  refine callP_of_vc (fz := []) Try.func48 rfl (by decide) (Nat.le_of_ble_eq_true rfl) ok48 (by simp [labL, lab]) ?_
  rintro P ⟨bin, cmp, cnv, neg, com, bnot, beq, ofN, toN, at_, sub_, scmp, cat, sget, ssz, ssub, elem, fld_⟩ hP hA
  conv => cbv
  refine ⟨Lq, fun x => ⟨[(4, .v (.int .i64 x.i)), (3, .v (.slice x.a x.n x.c)), (0, .p 1 0)], Rc, [(1, ⟨87, [.v (.bool false), .v (.slice aA nA cA)]⟩), (0, ⟨87, [.v (.bool false), .v (.slice aB nB cB)]⟩)], 2, x.rs⟩,
    fun m x => (m = 1 ∧ x.i = 0 ∧ x.a = none ∧ x.n = 0 ∧ x.c = 0 ∧ x.rs = [r2]) ∨ (m = 0 ∧ x.i = 2 ∧ x.n = 1 ∧ ∃ (aw : Addr) (zw : List Value) (wv : Int), x.a = some aw ∧ zw = [.int .u64 wv] ∧ wv = (Y : Nat) ∧ x.rs = [⟨some aw, 1, x.c, 104, 1, zw⟩, r2]),
    ⟨1, ⟨0, none, 0, 0, _⟩, ⟨⟨rfl, rfl, rfl, trivial⟩, rfl, ⟨rfl, rfl, trivial⟩, rfl, .refl _⟩, .inl ⟨rfl, rfl, rfl, rfl, rfl, rfl⟩⟩, ?_⟩
  rintro m ⟨bi, ba, bn, bc, brs⟩ hx
  simp only at hx
  have oY := ofN_ hA nA
  rcases hx with ⟨hm, hbi, rfl, rfl, rfl, rfl⟩ | ⟨hm, hbi, rfl, aw, zw, wv, rfl, hzw, hwv, rfl⟩
  · conv => cbv
    refine br_t (by rw [oY, cmp_lss hA]; simp; omega) ?_
    conv => cbv
    refine ⟨0, nA, hbi.symm, rfl, by omega, hcA, ?_⟩
    intro a5 n5 c5 hn5 hc5 ha5
    have h5 := hr.part' (l := 0) (m := nA) (by omega) (Nat.le_refl _) hn5 hcA ha5
    have e5 : ((cn Y).drop 0).take (nA - 0) = cn Y := by rw [List.drop_zero, List.take_of_length_le (by have := hr.len; omega)]
    rw [e5] at h5
    conv => cbv
    refine (low64P hP Rc a5 n5 c5 (cn Y) h5 (by omega)).callQ rfl ?_
    rintro _ ⟨w, rfl, hw⟩
    rw [nv_cn, Nat.mod_eq_of_lt (by omega)] at hw
    conv => cbv
    refine ⟨0, [], _, _, _, 1, [.int .u64 w], .nil, .refl _, .own _ _ _ _ _ _ rfl rfl rfl (by simp [Value.oneCell']), by omega, by omega, ?_⟩
    intro a6 n6 c6 z6 hn6 hz6 hs6
    obtain rfl : n6 = 1 := by omega
    obtain ⟨a6, rfl⟩ := Option.isSome_iff_exists.1 (hs6 (by omega))
    conv => cbv
    exact ⟨0, ⟨bin .add .i64 bi 2, some a6, 1, c6, _⟩, by omega, ⟨⟨rfl, rfl, rfl, trivial⟩, rfl, ⟨rfl, rfl, trivial⟩, rfl, .refl _⟩, .inr ⟨rfl, by show bin .add .i64 bi 2 = 2; rw [hbi, add_i64 hA (by omega)]; rfl, rfl, a6, z6, w, rfl, hz6, hw, rfl⟩⟩
  conv => cbv
  refine br_f (by rw [oY, cmp_lss hA]; simp; omega) ?_
  conv => cbv
  exact hg aw bc zw wv hzw hwv

end Go.Proofs.Ytekoipmmmoofpaa.Co
