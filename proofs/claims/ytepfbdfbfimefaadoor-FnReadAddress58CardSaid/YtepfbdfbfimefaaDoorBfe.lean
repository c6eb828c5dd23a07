/- Great numbers behind pointers of the call's own: out of bytes, over another, times another, and another more, into bytes. -/
import Derived.Test.YtepfbdfbfimefaaDoorBfd
import Derived.Test.YtepfbdfbfimefaaDoorMTyee
set_option linter.unusedSimpArgs false
set_option linter.unusedVariables false
namespace Go.Proofs.YtepfbdfbfimefaaDoor.Bf
open Go Go.Se Go.Proofs Go.Proofs.YtepfbdfbfimefaaDoor.Co Go.Proofs.YtepfbdfbfimefaaDoor.Ht Go.Proofs.YtepfbdfbfimefaaDoor.Tyee

theorem mix {P : Program} (hP : P = Tryd.prog) : P.follows .mixedOrders = true := by subst hP; rfl

theorem pw8 (p : Nat) : 256 ^ p = 2 ^ (8 * p) := by rw [show 256 = 2 ^ 8 by decide, ← Nat.pow_mul]

theorem bl_bytes {X k : Nat} (h : Bl X k) : (k + 7) / 8 = (dl X).length := by
  rcases h with ⟨rfl, rfl⟩ | ⟨h1, h2, h3⟩
  · rw [dl0]; rfl
  · have h0 : X ≠ 0 := by have := Nat.pow_pos (n := k - 1) (show 0 < 2 by decide); omega
    obtain ⟨a, b⟩ := dl_len X h0
    have c := dl_lt X
    rw [pw8] at b c
    have e1 : 8 * ((dl X).length - 1) < k := (Nat.pow_lt_pow_iff_right (by decide : 1 < 2)).1 (Nat.lt_of_le_of_lt b h3)
    have e2 : k - 1 < 8 * (dl X).length := (Nat.pow_lt_pow_iff_right (by decide : 1 < 2)).1 (Nat.lt_of_le_of_lt h2 c)
    omega

theorem cn_bytes {X : Nat} (k : Nat) (hk : k < (dl X).length) : k / 4 < (cn X).length := by
  have h0 : X ≠ 0 := fun e => by rw [e, dl0] at hk; simp at hk
  obtain ⟨a, b⟩ := dl_len X h0
  have c := cn_lt X
  rw [pw8] at b
  rw [pw] at c
  have e1 : 8 * ((dl X).length - 1) < 32 * (cn X).length := (Nat.pow_lt_pow_iff_right (by decide : 1 < 2)).1 (Nat.lt_of_le_of_lt b c)
  omega

theorem byte_of (X k : Nat) : X / 4294967296 ^ (k / 4) % 4294967296 / 2 ^ (8 * (k % 4)) % 256 = X / 256 ^ k % 256 := by
  have e : 256 ^ k = 4294967296 ^ (k / 4) * 2 ^ (8 * (k % 4)) := by rw [pw, pw8, ← Nat.pow_add]; congr 1; omega
  rw [e, ← Nat.div_div_eq_div_mul]
  obtain ⟨Y, hY⟩ : ∃ Y, Y = X / 4294967296 ^ (k / 4) := ⟨_, rfl⟩
  rw [← hY]
  have h : k % 4 = 0 ∨ k % 4 = 1 ∨ k % 4 = 2 ∨ k % 4 = 3 := by omega
  rcases h with h | h | h | h <;> (rw [h]; simp only [Nat.reduceMul, Nat.reducePow]; omega)

section
variable {cnv : IntKind → Int → Int} (hc : cnv = Ar.real.conv)
include hc
theorem cu8 (x : Nat) : cnv .u8 x = ((x % 256 : Nat) : Int) := by
  rw [hc]
  show IntKind.u8.wrap (x : Int) = _
  simp [IntKind.wrap, IntKind.bits, IntKind.signed]
end

section
variable {bin : BinOp → IntKind → Int → Int → Int} {cmp : BinOp → Int → Int → Bool} {cnv : IntKind → Int → Int} {neg : IntKind → Int → Int} {com : IntKind → Int → Int} {bnot : Bool → Bool} {beq : Bool → Bool → Bool} {ofN : Nat → Int} {toN : Int → Nat} {at_ : Nat → Nat → Nat → Nat} {sub_ : Nat → Nat → Nat} {scmp : BinOp → ByteArray → ByteArray → Bool} {cat : ByteArray → ByteArray → ByteArray} {sget : ByteArray → Int → Int} {ssz : ByteArray → Nat} {ssub : ByteArray → Nat → Nat → ByteArray} {elem : Option Addr → Int → Nat → Addr} {fld_ : Addr → Nat → Addr}
  (hA : (⟨bin, cmp, cnv, neg, com, bnot, beq, ofN, toN, at_, sub_, scmp, cat, sget, ssz, ssub, elem, fld_⟩ : Ar) = Ar.real)
include hA

/-- Bits are put below others. -/
theorem orhi {A c s e : Nat} {si : Int} (hsi : si = s) (hse : s < 32) (hc : c * 2 ^ s < 2 ^ e) (hd : 2 ^ e * A < 4294967296) (he : c * 2 ^ s < 4294967296) : bin .or .u32 ((2 ^ e * A : Nat) : Int) (bin .shl .u32 (c : Int) si) = ((2 ^ e * A + c * 2 ^ s : Nat) : Int) := by
  rw [hsi, shw_u32 hA hse, Nat.mod_eq_of_lt he, or_u32 hA (by omega) (by omega), Nat.two_pow_add_eq_or_of_lt hc]
end


set_option maxRecDepth 100000 in
set_option maxHeartbeats 4000000 in
/-- A number's bytes. -/
theorem bytesC {P : Program} (hP : P = Tryd.prog) (Rc : RO) (aA : Option Addr) (nA cA X : Nat) (hr : RI Rc .u32 aA nA (cn X)) (hcA : nA ≤ cA) (hnA : nA ≤ 100000) (hLs : (dl X).length ≤ 100000) (a0 : Option Addr) (n0 c0 : Nat) {K : RO → List (Nat × HB) → Nat → List Row → SV → Prop}
    (hg : ∀ (ab : Addr) (L : Nat) (zs : List Value), L = (dl X).length → zs = ints .u8 (dl X).reverse → K Rc [(1, ⟨50, [.v (.bool false), .v (.slice a0 n0 c0)]⟩), (0, ⟨50, [.v (.bool false), .v (.slice aA nA cA)]⟩)] 2 [⟨some ab, L, L, 5, 1, zs⟩] (.v (.slice (some ab) L L))) :
    CallP P 30 [.p 0 0] Rc [(1, ⟨50, [.v (.bool false), .v (.slice a0 n0 c0)]⟩), (0, ⟨50, [.v (.bool false), .v (.slice aA nA cA)]⟩)] 2 [] K := by
  subst hP
  refine callP_of_vc (fz := []) Tryd.func30 rfl (by decide) (Nat.le_of_ble_eq_true rfl) ok30 (by simp [labL, lab]) ?_
  rintro P ⟨bin, cmp, cnv, neg, com, bnot, beq, ofN, toN, at_, sub_, scmp, cat, sget, ssz, ssub, elem, fld_⟩ hP hA
  conv => cbv
  refine (bitLenP hP Rc aA nA cA X hr hnA).callQ rfl ?_
  rintro _ ⟨kb, kn, rfl, hkb, hbl⟩
  conv => cbv
  refine ⟨by decide, ?_⟩
  have hLk := bl_bytes hbl
  have ebl : bin .quo .i64 (bin .add .i64 kb 7) 8 = ((dl X).length : Int) := by rw [hkb, add_i64 hA (by omega), quo_i64 hA (by omega) (by omega) (by decide)]; omega
  refine ⟨by rw [ebl]; omega, by rw [ebl]; omega, by rw [ebl]; omega, by rw [ebl]; omega, ?_⟩
  intro ab nb cb zb hnb hcb hzb
  rw [ebl] at hnb hcb
  obtain ⟨L, hL⟩ : ∃ L, L = (dl X).length := ⟨_, rfl⟩
  obtain ⟨T, hT⟩ : ∃ T, T = (dl X).reverse := ⟨_, rfl⟩
  obtain rfl : L = nb := by omega
  obtain rfl : L = cb := by omega
  rw [zeros] at hzb
  conv => cbv
  refine callP_in (fz := []) hP hA Tryd.func45 rfl (by decide) rfl ok45 (by simp [labL, lab]) ?_
  conv => cbv
  refine (bitLenP hP Rc aA nA cA X hr hnA).callQ rfl ?_
  rintro _ ⟨kb2, kn2, rfl, hkb2, hbl2⟩
  conv => cbv
  refine ⟨by decide, ?_⟩
  have hLk2 := bl_bytes hbl2
  have ebl2 : bin .quo .i64 (bin .add .i64 kb2 7) 8 = ((dl X).length : Int) := by rw [hkb2, add_i64 hA (by omega), quo_i64 hA (by omega) (by omega) (by decide)]; omega
  have oL := ofN_ hA L
  have oA := ofN_ hA nA
  have hlA := hr.len
  refine br_f (by rw [ebl2, oL, cmp_lss hA]; simp; omega) ?_
  conv => cbv
  refine ⟨Lz, fun x => ⟨[(20, .v (.int .i64 x.i)), (19, .v (.int .i64 (ofN L))), (1, .v (.slice (some ab) L L)), (0, .p 0 0)], Rc, [(1, ⟨50, [.v (.bool false), .v (.slice a0 n0 c0)]⟩), (0, ⟨50, [.v (.bool false), .v (.slice aA nA cA)]⟩)], 2, [⟨some ab, L, L, 5, 1, x.zs⟩]⟩,
    fun m x => ∃ (i : Nat) (ys : List Int), x.i = i ∧ i ≤ L ∧ m = L - i ∧ x.zs = ints .u8 ys ∧ ys.length = L ∧ ∀ j, j < i → ys[j]? = T[j]?,
    ⟨L, ⟨0, zb⟩, ⟨⟨rfl, rfl, rfl, rfl, trivial⟩, rfl, ⟨rfl, rfl, trivial⟩, rfl, .refl _⟩, 0, _, rfl, by omega, rfl, hzb, by simp, fun j hj => absurd hj (by omega)⟩, ?_⟩
  rintro m ⟨ii, zs⟩ ⟨i, ys, hi, hin, hm, hzs, hyl, hyj⟩
  simp only at hi hzs
  conv => cbv
  by_cases hlt : i < L
  · refine br_t (by rw [oL, cmp_lss hA]; simp; omega) ?_
    conv => cbv
    have ek : bin .sub .i64 (bin .sub .i64 (ofN L) 1) ii = ((L - 1 - i : Nat) : Int) := by
      have e1 : bin .sub .i64 (ofN L) 1 = (L : Int) - 1 := by rw [oL]; exact sub_i64 hA (by omega)
      rw [e1, hi, sub_i64 hA (by omega)]
      omega
    obtain ⟨k, hk⟩ : ∃ k, k = L - 1 - i := ⟨_, rfl⟩
    rw [← hk] at ek
    have eq4 : bin .quo .i64 (bin .sub .i64 (bin .sub .i64 (ofN L) 1) ii) 4 = ((k / 4 : Nat) : Int) := by rw [ek, quo_i64 hA (by omega) (by omega) (by decide)]; omega
    have er4 : bin .mul .i64 8 (bin .rem .i64 (bin .sub .i64 (bin .sub .i64 (ofN L) 1) ii) 4) = ((8 * (k % 4) : Nat) : Int) := by
      have e1 : bin .rem .i64 (bin .sub .i64 (bin .sub .i64 (ofN L) 1) ii) 4 = ((k % 4 : Nat) : Int) := by rw [ek, rem_i64 hA (by omega)]; omega
      rw [e1, mul_i64 hA (by omega)]
      omega
    have hkA : k / 4 < nA := by rw [hlA]; exact cn_bytes k (by omega)
    refine ⟨by rw [hi]; omega, by rw [hi, ofN_ hA]; omega, rfl, ?_⟩
    refine ⟨0, _, ab, i, rfl, rfl, by rw [elem_is hA, hi]; show ab.add (((i : Nat) : Int).toNat * 1) = _; rw [Nat.mul_one, Int.toNat_natCast], by show i + 1 ≤ zs.length; rw [hzs, ints_len, hyl]; omega, ?_⟩
    intro z1 hz1
    have hz1' : z1 = ints .u8 (ys.set i 0) := by
      rw [hz1, hzs]
      exact ints_set _ _ _ _ (by omega)
    conv => cbv
    refine ⟨by decide, ?_⟩
    refine br_t (by rw [eq4, oA, cmp_lss hA]; simp; omega) ?_
    conv => cbv
    refine ⟨by decide, ?_⟩
    refine ix_ri hr oA (k / 4) eq4 hkA ?_
    refine ld_ri hA hr (by rw [eq4]; omega) (by rw [eq4]; omega) ?_
    intro d hd hdw
    rw [eq4] at hd
    have hd' : (cn X)[k / 4]? = some d := by rw [getD_get (by omega), hd]; rfl
    have hdv := cn_get hd'
    conv => cbv
    refine ⟨by decide, ?_⟩
    refine ⟨by rw [er4]; omega, ?_⟩
    have ee : cnv .u8 (bin .shr .u32 d (bin .mul .i64 8 (bin .rem .i64 (bin .sub .i64 (bin .sub .i64 (ofN L) 1) ii) 4))) = ((X / 256 ^ k % 256 : Nat) : Int) := by
      rw [er4, hdv, shn_u32 hA (by omega), cu8 (cnv_is hA), byte_of]
    refine ⟨by rw [hi]; omega, by rw [hi, ofN_ hA]; omega, rfl, ?_⟩
    refine ⟨0, _, ab, i, rfl, rfl, by rw [elem_is hA, hi]; show ab.add (((i : Nat) : Int).toNat * 1) = _; rw [Nat.mul_one, Int.toNat_natCast], by show i + 1 ≤ z1.length; rw [hz1', ints_len]; simp; omega, ?_⟩
    intro z2 hz2
    have hz2' : z2 = ints .u8 (ys.set i ((X / 256 ^ k % 256 : Nat) : Int)) := by
      rw [hz2]
      show List.take i z1 ++ [Value.int .u8 _] ++ List.drop (i + 1) z1 = _
      rw [hz1', ee]
      exact (ints_set _ _ _ _ (by simp; omega)).trans (by rw [List.set_set])
    conv => cbv
    refine ⟨L - (i + 1), ⟨bin .add .i64 ii 1, z2⟩, by omega, ⟨⟨rfl, rfl, rfl, rfl, trivial⟩, rfl, ⟨rfl, rfl, trivial⟩, rfl, .refl _⟩, i + 1, _, by show bin .add .i64 ii 1 = _; rw [hi, add_i64 hA (by omega)]; rfl, by omega, rfl, hz2', by simp [hyl], fun j hj => ?_⟩
    rw [List.getElem?_set]
    by_cases hji : i = j
    · subst hji
      rw [if_pos rfl, if_pos (by omega), hT, List.getElem?_reverse (by omega), ← hL, ← hk, getD_get (by omega)]
      congr 1
      exact (dl_get X k _ (getD_get (by omega))).symm
    · rw [if_neg hji]
      exact hyj j (by omega)
  refine br_f (by rw [oL, cmp_lss hA]; simp; omega) ?_
  conv => cbv
  have hzT : zs = ints .u8 (dl X).reverse := by
    rw [hzs, ← hT]
    congr 1
    apply List.ext_getElem?
    intro j
    by_cases hj : j < i
    · exact hyj j hj
    · rw [List.getElem?_eq_none (by omega), List.getElem?_eq_none (by rw [hT]; simp; omega)]
  exact hg ab L zs hL hzT

set_option maxRecDepth 100000 in
set_option maxHeartbeats 8000000 in
/-- A number out of its bytes. -/
theorem setBytesG {P : Program} (hP : P = Tryd.prog) (R : RO) (a : Option Addr) (N c X : Nat) (xs : List Int) (h : RI R .u8 a N xs) (hc : N ≤ c) (hN : N ≤ 1000) (hX : be xs = X) {K : RO → List (Nat × HB) → Nat → List Row → SV → Prop}
    (hg : ∀ (Rc : RO) (aA : Option Addr) (nA cA : Nat), R.le Rc → RI Rc .u32 aA nA (cn X) → nA ≤ cA → K Rc [(0, ⟨50, [.v (.bool false), .v (.slice aA nA cA)]⟩)] 1 [] (.p 0 0)) :
    CallP P 21 [.p 0 0, .v (.slice a N c)] R [(0, ⟨50, [.v (.bool false), .v (.slice none 0 0)]⟩)] 1 [] K := by
  have hl := h.len
  have hby := By.of_wf h.wf
  have hXN : X < 256 ^ N := by rw [← hX, hl]; exact be_lt hby
  subst hP
  refine callP_of_vc (fz := []) Tryd.func21 rfl (by decide) (Nat.le_of_ble_eq_true rfl) ok21 (by simp [labL, lab]) ?_
  rintro P ⟨bin, cmp, cnv, neg, com, bnot, beq, ofN, toN, at_, sub_, scmp, cat, sget, ssz, ssub, elem, fld_⟩ hP hA
  conv => cbv
  have o := ofN_ hA N
  refine ⟨by decide, ?_⟩
  obtain ⟨M, hM⟩ : ∃ M, M = (N + 3) / 4 := ⟨_, rfl⟩
  have eM : bin .quo .i64 (bin .add .i64 (ofN N) 3) 4 = (M : Int) := by rw [o, add_i64 hA (by omega), quo_i64 hA (by omega) (by omega) (by decide)]; omega
  refine ⟨by rw [eM]; omega, by rw [eM]; omega, by rw [eM]; omega, by rw [eM]; omega, ?_⟩
  intro az nz cz z hnz hcz hz
  rw [eM] at hnz hcz
  obtain rfl : M = nz := by omega
  obtain rfl : M = cz := by omega
  rw [zeros] at hz
  have oM := ofN_ hA M
  conv => cbv
  refine ⟨Lz, fun x => ⟨[(16, .v (.int .i64 x.i)), (15, .v (.int .i64 (ofN N))), (14, .v (.slice a N c)), (1, .v (.slice a N c)), (5, .v (.slice (some az) M M)), (0, .p 0 0)], R, [(0, ⟨50, [.v (.bool false), .v (.slice none 0 0)]⟩)], 1, [⟨some az, M, M, 68, 1, x.zs⟩]⟩,
    fun m x => ∃ (i : Nat) (ys : List Int), x.i = i ∧ i ≤ N ∧ m = N - i ∧ x.zs = ints .u32 ys ∧ ys.length = M ∧ Dg ys ∧ nv ys = X / 256 ^ (N - i) * 256 ^ (N - i),
    ⟨N, ⟨0, z⟩, ⟨⟨rfl, rfl, rfl, rfl, rfl, rfl, trivial⟩, rfl, ⟨rfl, trivial⟩, rfl, .refl _⟩, 0, _, rfl, by omega, rfl, hz, by simp, dg_zero _, by rw [nv_zero, Nat.sub_zero, Nat.div_eq_of_lt hXN, Nat.zero_mul]⟩, ?_⟩
  rintro m ⟨ii, zs⟩ ⟨i, ys, hi, hin, hm, hzs, hyl, hyd, hyn⟩
  simp only at hi hzs
  conv => cbv
  by_cases hlt : i < N
  · refine br_t (by rw [o, cmp_lss hA]; simp; omega) ?_
    conv => cbv
    refine ix_ri h o i hi hlt ?_
    refine ld_u8 hA h (by omega) (by omega) ?_
    intro cc hcc hcc0 hcc1
    have ek : bin .sub .i64 (bin .sub .i64 (ofN N) 1) ii = ((N - 1 - i : Nat) : Int) := by
      have e1 : bin .sub .i64 (ofN N) 1 = (N : Int) - 1 := by rw [o]; exact sub_i64 hA (by omega)
      rw [e1, hi, sub_i64 hA (by omega)]
      omega
    obtain ⟨k, hk⟩ : ∃ k, k = N - 1 - i := ⟨_, rfl⟩
    rw [← hk] at ek
    have hcv : cc = ((X / 256 ^ k % 256 : Nat) : Int) := by
      have e1 : xs[i]? = some cc := by
        rw [getD_get (by omega), hcc]
        congr 2
        omega
      rw [← hX]
      refine be_get hby (p := k) (by omega) ?_
      rw [show xs.length - 1 - k = i by omega]
      exact e1
    obtain ⟨q, hq⟩ : ∃ q, q = k / 4 := ⟨_, rfl⟩
    obtain ⟨s, hs⟩ : ∃ s, s = 8 * (k % 4) := ⟨_, rfl⟩
    have eq4 : bin .quo .i64 (bin .sub .i64 (bin .sub .i64 (ofN N) 1) ii) 4 = (q : Int) := by rw [ek, quo_i64 hA (by omega) (by omega) (by decide)]; omega
    have er4 : bin .mul .i64 8 (bin .rem .i64 (bin .sub .i64 (bin .sub .i64 (ofN N) 1) ii) 4) = (s : Int) := by
      have e1 : bin .rem .i64 (bin .sub .i64 (bin .sub .i64 (ofN N) 1) ii) 4 = ((k % 4 : Nat) : Int) := by rw [ek, rem_i64 hA (by omega)]; omega
      rw [e1, mul_i64 hA (by omega)]
      omega
    have hqM : q < M := by omega
    obtain ⟨d, hd⟩ : ∃ d, d = ys.getD q 0 := ⟨_, rfl⟩
    have hd' : ys[q]? = some d := by rw [getD_get (by omega), hd]
    have hdr := hyd d (List.mem_of_getElem? hd')
    have hdv := nv_get hyd q d hd'
    have hpk : 256 ^ (k + 1) = 4294967296 ^ q * 2 ^ (s + 8) := by rw [pw, pw8, ← Nat.pow_add]; congr 1; omega
    have hpk0 : 256 ^ k = 4294967296 ^ q * 2 ^ s := by rw [pw, pw8, ← Nat.pow_add]; congr 1; omega
    obtain ⟨A, hAA⟩ : ∃ A, A = X / 256 ^ (k + 1) := ⟨_, rfl⟩
    have hNi : N - i = k + 1 := by omega
    rw [hNi, ← hAA] at hyn
    obtain ⟨B, hB⟩ : ∃ B, d = ((2 ^ (s + 8) * B : Nat) : Int) := by
      refine ⟨A % 2 ^ (32 - (s + 8)), ?_⟩
      rw [hdv, hyn, hpk, ← Nat.mul_assoc, Nat.mul_comm A, Nat.mul_assoc, Nat.mul_div_cancel_left _ (Nat.pow_pos (by decide)), show 4294967296 = 2 ^ (s + 8) * 2 ^ (32 - (s + 8)) by rw [← Nat.pow_add, show s + 8 + (32 - (s + 8)) = 32 by omega], Nat.mul_comm A, Nat.mul_mod_mul_left]
    obtain ⟨C, hC⟩ : ∃ C, C = X / 256 ^ k % 256 := ⟨_, rfl⟩
    rw [← hC] at hcv
    have hCl : C < 256 := by omega
    have hCs : C * 2 ^ s < 2 ^ (s + 8) := by rw [Nat.pow_add, Nat.mul_comm]; exact Nat.mul_lt_mul_of_pos_left (by omega) (Nat.pow_pos (by decide))
    have hs32 : 2 ^ (s + 8) ≤ 4294967296 := by
      have : 2 ^ (s + 8) ≤ 2 ^ 32 := Nat.pow_le_pow_right (by decide) (by omega)
      simpa using this
    have eor : bin .or .u32 d (bin .shl .u32 (cnv .u32 cc) (bin .mul .i64 8 (bin .rem .i64 (bin .sub .i64 (bin .sub .i64 (ofN N) 1) ii) 4))) = d + ((C * 2 ^ s : Nat) : Int) := by
      rw [hcv, cnv_u32 hA (by omega), hB, orhi hA er4 (by omega) hCs (by omega) (by omega)]
      rfl
    conv => cbv
    refine ⟨[0, 1, 2, 3, 4, 5, 6, 7, 8, 9, 10, 11, 12, 13], [13], mix hP, by kernel_rfl, ?_⟩
    conv => cbv
    refine ⟨by decide, ?_⟩
    refine ⟨by rw [eq4]; omega, by rw [eq4, ofN_ hA]; omega, rfl, ?_⟩
    refine ld_row hA 0 (r := ⟨some az, M, M, 68, 1, zs⟩) rfl rfl rfl (v := .int .u32 d) (by show zs[_]? = _; rw [eq4, hzs, ints, List.getElem?_map, Int.toNat_natCast, hd']; rfl) ?_
    conv => cbv
    refine ⟨by decide, ?_⟩
    refine ⟨by rw [er4]; omega, ?_⟩
    refine ⟨by rw [eq4]; omega, by rw [eq4, ofN_ hA]; omega, rfl, ?_⟩
    refine ⟨0, _, az, q, rfl, rfl, by rw [elem_is hA, eq4]; show az.add (((q : Nat) : Int).toNat * 1) = _; rw [Nat.mul_one, Int.toNat_natCast], by show q + 1 ≤ zs.length; rw [hzs, ints_len, hyl]; omega, ?_⟩
    intro z2 hz2
    have hz2' : z2 = ints .u32 (ys.set q (d + ((C * 2 ^ s : Nat) : Int))) := by
      rw [hz2]
      show List.take q zs ++ [Value.int .u32 _] ++ List.drop (q + 1) zs = _
      rw [hzs, eor]
      exact ints_set _ _ _ _ (by omega)
    conv => cbv
    refine ⟨N - (i + 1), ⟨bin .add .i64 ii 1, z2⟩, by omega, ⟨⟨rfl, rfl, rfl, rfl, rfl, rfl, trivial⟩, rfl, ⟨rfl, trivial⟩, rfl, .refl _⟩, i + 1, _, by show bin .add .i64 ii 1 = _; rw [hi, add_i64 hA (by omega)]; rfl, by omega, rfl, hz2', by simp [hyl], dg_set hyd q ?_, ?_⟩
    · refine ⟨by omega, ?_⟩
      rw [hB] at hdr ⊢
      have h1 : 2 ^ (s + 8) * B + 2 ^ (s + 8) ≤ 4294967296 := by
        have h2 : 4294967296 = 2 ^ (s + 8) * 2 ^ (32 - (s + 8)) := by rw [← Nat.pow_add, show s + 8 + (32 - (s + 8)) = 32 by omega]
        have h3 : B < 2 ^ (32 - (s + 8)) := by
          refine Nat.lt_of_mul_lt_mul_left (a := 2 ^ (s + 8)) ?_
          rw [← h2]
          omega
        rw [← Nat.mul_succ, h2]
        exact Nat.mul_le_mul_left _ h3
      omega
    · rw [nv_set q d _ hd' hdr.1 (by omega), hyn, show N - (i + 1) = k by omega, Int.toNat_natCast]
      have e1 : X / 256 ^ k = 256 * A + C := by
        rw [hAA, Nat.pow_succ, ← Nat.div_div_eq_div_mul, hC]
        omega
      rw [e1, Nat.add_mul, Nat.pow_succ, hpk0]
      congr 1
      · rw [← Nat.mul_assoc, Nat.mul_comm (A * _) 256, ← Nat.mul_assoc]
      · rw [Nat.mul_assoc, Nat.mul_comm (2 ^ s)]
  refine br_f (by rw [o, cmp_lss hA]; simp; omega) ?_
  conv => cbv
  have hnX : nv ys = X := by rw [hyn, show N - i = 0 by omega]; simp
  refine CallP.pub 0 rfl (fun R1 hR1 hp1 => ?_) ⟨_, by rw [hP]; exact Tryd.func36, by decide, rfl⟩
  have hr1 : RI R1 .u32 (some az) M ys := hp1.ri hyl.symm (fun _ => rfl) rfl hzs hyd.wf
  refine (normP hP R1 (some az) M M ys hr1 (Nat.le_refl _) (by omega)).callP rfl ?_
  rintro Rc _ hRc ⟨aA, nA, cA, rfl, hr, hcA⟩
  rw [hnX] at hr
  conv => cbv
  exact hg Rc aA nA cA (RO.le_trans hR1 hRc) hr hcA

def IntAt (R : RO) (v : Value) (X : Nat) : Prop := ∃ b a n c, v = .pointer (some ⟨b, 0, none⟩) ∧ R b = some (.cells #[.bool false, .slice a n c] 50 (0, 0)) ∧ RI R .u32 a n (cn X) ∧ n ≤ c

theorem IntAt.le {R R' : RO} {v : Value} {X : Nat} (h : IntAt R v X) (hl : R.le R') : IntAt R' v X :=
  let ⟨b, a, n, c, h1, h2, h3, h4⟩ := h
  ⟨b, a, n, c, h1, hl _ _ h2, h3.le hl, h4⟩

theorem IntAt.cells {R : RO} {b : Nat} {a : Option Addr} {n c : Nat} (h : R b = some (.cells #[.bool false, .slice a n c] 50 (0, 0))) : CellsAt R ⟨b, 0, none⟩ [.bool false, .slice a n c] := CellsAt.blk h

set_option maxRecDepth 100000 in
theorem newIntP {P : Program} (hP : P = Tryd.prog) (R : RO) (v : Nat) (vi : Int) (hv : vi = v) (hlt : v < 4611686018427387904) :
    RetP P 26 [.int .i64 vi] R fun R' r => IntAt R' r v := by
  subst hP
  refine retP_vc (fz := []) Tryd.func26 rfl (by decide) rfl ok26 ?_
  intro P bin cmp cnv neg com bnot beq ofN toN at_ sub_ scmp cat sget ssz ssub elem fld_ hP hA
  conv => cbv
  refine callP_in (fz := []) hP hA Tryd.func41 rfl (by decide) rfl ok41 (by simp [labL, lab]) ?_
  conv => cbv
  have cl : cmp .lss vi 0 = false := by rw [hv, cmp_lss hA]; exact decide_eq_false (by omega)
  simp (maxSteps := 10000000) only [cl]
  conv => cbv
  refine (natOfP hP R v (cnv .u64 vi) (by rw [hv]; exact cnv_u64 hA (by omega)) (by omega)).callP rfl ?_
  rintro R1 _ hR1 ⟨a, n, c, rfl, hr, hc⟩
  conv => cbv
  simp (maxSteps := 10000000) only [cl]
  conv => cbv
  intro ρ R'' hle hpub _
  exact ⟨ρ 0, a, n, c, rfl, hpub 0 _ rfl, hr.le hle, hc⟩


/-- A block of the call's own that is a great number. -/
abbrev iB (a : Option Addr) (n c : Nat) : HB := ⟨50, [.v (.bool false), .v (.slice a n c)]⟩


set_option maxRecDepth 100000 in
set_option maxHeartbeats 4000000 in
theorem divModC {P : Program} (hP : P = Tryd.prog) (R : RO) (rs : List Row) (yv : Value) (X Y : Nat) (a : Option Addr) (n c : Nat) (hx : RI R .u32 a n (cn X)) (hc : n ≤ c) (hn : n ≤ 9000) (hy : IntAt R yv Y) (hY : 4294967296 ≤ Y) (hY2 : Y < 18446744073709551616) (a0 : Option Addr) (n0 c0 : Nat)
    {K : RO → List (Nat × HB) → Nat → List Row → SV → Prop}
    (hg : ∀ (R1 : RO) (a1 : Option Addr) (n1 c1 : Nat) (a2 : Option Addr) (n2 c2 : Nat) (b2 : HB), R.le R1 → RI R1 .u32 a1 n1 (cn (X / Y)) → n1 ≤ c1 → RI R1 .u32 a2 n2 (cn (X % Y)) → n2 ≤ c2 →
      K R1 [(2, b2), (1, ⟨50, [.v (.bool false), .v (.slice a2 n2 c2)]⟩), (0, ⟨50, [.v (.bool false), .v (.slice a1 n1 c1)]⟩)] 3 rs (.tu [.p 0 0, .p 1 0])) :
    CallP P 23 [.p 0 0, .p 0 0, .v yv, .p 1 0] R [(1, ⟨50, [.v (.bool false), .v (.slice a0 n0 c0)]⟩), (0, ⟨50, [.v (.bool false), .v (.slice a n c)]⟩)] 2 rs K := by
  subst hP
  obtain ⟨by_, ay, ny, cy, rfl, hy1, hy2, hy3⟩ := hy
  refine callP_of_vc (fz := []) Tryd.func23 rfl (by decide) (Nat.le_of_ble_eq_true rfl) ok23 (by simp [labL, lab]) ?_
  rintro P ⟨bin, cmp, cnv, neg, com, bnot, beq, ofN, toN, at_, sub_, scmp, cat, sget, ssz, ssub, elem, fld_⟩ hP hA
  conv => cbv
  have bff : beq false false = true := by rw [beq_ hA]; rfl
  have nt : bnot true = false := by rw [bnot_ hA]; rfl
  refine ld_all (IntAt.cells hy1) rfl ?_
  conv => cbv
  refine callP_in (fz := []) hP hA Tryd.func37 rfl (by decide) rfl ok37 (by simp [labL, lab]) ?_
  conv => cbv
  refine ⟨[0, 1, 2, 3, 4, 5, 6, 7, 8, 9, 10, 11, 12, 13], [8], mix hP, by decide +kernel, ?_⟩
  conv => cbv
  refine ld_at hA (IntAt.cells hy1) 1 rfl ?_
  conv => cbv
  refine (div2P hP R a ay n c ny cy X Y hx hc hn hy2 hY hY2).callP rfl ?_
  rintro R1 _ hR1 ⟨a1, n1, c1, a2, n2, c2, rfl, hr1, hc1, hr2, hc2⟩
  conv => cbv
  have o1 := ofN_ hA n1
  have o2 := ofN_ hA n2
  refine ⟨[0, 1, 2, 3, 4, 5, 6, 7, 8, 9, 10, 11, 12, 13, 14, 15, 16, 17, 18, 19, 20, 21, 22, 23, 24, 25, 26, 27, 28, 29, 30, 31, 32, 33, 34, 35, 36, 37, 38, 39, 40], [31, 34, 37, 40, 18, 19, 28], mix hP, by decide +kernel, ?_⟩
  conv => cbv
  have hd1 : n1 = 0 ∨ n1 ≠ 0 := by omega
  have hd2 : n2 = 0 ∨ n2 ≠ 0 := by omega
  rcases hd1 with hd1 | hd1
  · have cg : cmp .gtr (ofN n1) 0 = false := by rw [o1, cmp_gtr hA]; simp; omega
    simp (maxSteps := 10000000) only [cg]
    conv => cbv
    rcases hd2 with hd2 | hd2
    · have cg2 : cmp .gtr (ofN n2) 0 = false := by rw [o2, cmp_gtr hA]; simp; omega
      simp (maxSteps := 10000000) only [cg2]
      conv => cbv
      exact hg R1 a1 n1 c1 a2 n2 c2 _ hR1 hr1 hc1 hr2 hc2
    have cg2 : cmp .gtr (ofN n2) 0 = true := by rw [o2, cmp_gtr hA]; simp; omega
    simp (maxSteps := 10000000) only [cg2]
    conv => cbv
    exact hg R1 a1 n1 c1 a2 n2 c2 _ hR1 hr1 hc1 hr2 hc2
  have cg : cmp .gtr (ofN n1) 0 = true := by rw [o1, cmp_gtr hA]; simp; omega
  simp (maxSteps := 10000000) only [cg]
  conv => cbv
  refine ld_at hA (IntAt.cells (hR1 _ _ hy1)) 0 rfl ?_
  conv => cbv
  simp (maxSteps := 10000000) only [bff]
  conv => cbv
  simp (maxSteps := 10000000) only [nt]
  conv => cbv
  rcases hd2 with hd2 | hd2
  · have cg2 : cmp .gtr (ofN n2) 0 = false := by rw [o2, cmp_gtr hA]; simp; omega
    simp (maxSteps := 10000000) only [cg2]
    conv => cbv
    exact hg R1 a1 n1 c1 a2 n2 c2 _ hR1 hr1 hc1 hr2 hc2
  have cg2 : cmp .gtr (ofN n2) 0 = true := by rw [o2, cmp_gtr hA]; simp; omega
  simp (maxSteps := 10000000) only [cg2]
  conv => cbv
  exact hg R1 a1 n1 c1 a2 n2 c2 _ hR1 hr1 hc1 hr2 hc2

set_option maxRecDepth 100000 in
set_option maxHeartbeats 4000000 in
theorem mulC {P : Program} (hP : P = Tryd.prog) (R : RO) (rs : List Row) (yv : Value) (X Y : Nat) (a : Option Addr) (n c : Nat) (hx : RI R .u32 a n (cn X)) (hn : n ≤ 10000) (hy : IntAt R yv Y) (hYl : (cn Y).length ≤ 10000) (tb : HB)
    {K : RO → List (Nat × HB) → Nat → List Row → SV → Prop}
    (hg : ∀ (R1 : RO) (a : Option Addr) (n c : Nat), R.le R1 → RI R1 .u32 a n (cn (X * Y)) → n ≤ c → K R1 [(1, tb), (0, ⟨50, [.v (.bool false), .v (.slice a n c)]⟩)] 2 rs (.p 0 0)) :
    CallP P 27 [.p 0 0, .p 0 0, .v yv] R [(1, tb), (0, ⟨50, [.v (.bool false), .v (.slice a n c)]⟩)] 2 rs K := by
  subst hP
  obtain ⟨by_, ay, ny, cy, rfl, hy1, hy2, hy3⟩ := hy
  refine callP_of_vc (fz := []) Tryd.func27 rfl (by decide) (Nat.le_of_ble_eq_true rfl) ok27 (by simp [labL, lab]) ?_
  rintro P ⟨bin, cmp, cnv, neg, com, bnot, beq, ofN, toN, at_, sub_, scmp, cat, sget, ssz, ssub, elem, fld_⟩ hP hA
  conv => cbv
  have bff : beq false false = true := by rw [beq_ hA]; rfl
  have nt : bnot true = false := by rw [bnot_ hA]; rfl
  refine ⟨[0, 1, 2, 3, 4, 5, 6, 7, 8, 9, 11, 12, 13, 14, 15, 16, 17, 18, 19, 10, 20, 21, 22, 23, 24, 25], [22, 25, 19], mix hP, by decide +kernel, ?_⟩
  conv => cbv
  refine ld_at hA (IntAt.cells hy1) 1 rfl ?_
  conv => cbv
  refine ld_at hA (IntAt.cells hy1) 0 rfl ?_
  conv => cbv
  simp (maxSteps := 10000000) only [bff]
  conv => cbv
  simp (maxSteps := 10000000) only [nt]
  conv => cbv
  refine (mulG hP R a ay n c ny cy X Y hx hn hy2 (by rw [hy2.len]; exact hYl)).callP rfl ?_
  rintro R1 _ hR1 ⟨a1, n1, c1, rfl, hr, hc⟩
  conv => cbv
  refine ⟨⟨⟨rfl, rfl, trivial⟩, .refl _⟩, ?_⟩
  conv => cbv
  have on := ofN_ hA n1
  have hn0 : n1 = 0 ∨ n1 ≠ 0 := by omega
  rcases hn0 with hn0 | hn0
  · have cg : cmp .gtr (ofN n1) 0 = false := by rw [on, cmp_gtr hA]; simp; omega
    simp (maxSteps := 10000000) only [cg]
    conv => cbv
    exact hg R1 a1 n1 c1 hR1 hr hc
  have cg : cmp .gtr (ofN n1) 0 = true := by rw [on, cmp_gtr hA]; simp; omega
  simp (maxSteps := 10000000) only [cg]
  conv => cbv
  exact hg R1 a1 n1 c1 hR1 hr hc

set_option maxRecDepth 100000 in
set_option maxHeartbeats 4000000 in
theorem setUC {P : Program} (hP : P = Tryd.prog) (R : RO) (rs : List Row) (v : Nat) (vi : Int) (hv : vi = v) (hvl : v < 18446744073709551616) (a0 : Option Addr) (n0 c0 : Nat) (tb : HB) {K : RO → List (Nat × HB) → Nat → List Row → SV → Prop}
    (hg : ∀ (R1 : RO) (a : Option Addr) (n c : Nat), R.le R1 → RI R1 .u32 a n (cn v) → n ≤ c → K R1 [(1, ⟨50, [.v (.bool false), .v (.slice a n c)]⟩), (0, tb)] 2 rs (.p 1 0)) :
    CallP P 28 [.p 1 0, .v (.int .u64 vi)] R [(1, ⟨50, [.v (.bool false), .v (.slice a0 n0 c0)]⟩), (0, tb)] 2 rs K := by
  subst hP
  refine callP_of_vc (fz := []) Tryd.func28 rfl (by decide) (Nat.le_of_ble_eq_true rfl) ok28 (by simp [labL, lab]) ?_
  rintro P ⟨bin, cmp, cnv, neg, com, bnot, beq, ofN, toN, at_, sub_, scmp, cat, sget, ssz, ssub, elem, fld_⟩ hP hA
  conv => cbv
  refine (natOfP hP R v vi hv hvl).callP rfl ?_
  rintro R1 _ hR1 ⟨a, n, c, rfl, hr, hc⟩
  conv => cbv
  exact hg R1 a n c hR1 hr hc

set_option maxRecDepth 100000 in
set_option maxHeartbeats 4000000 in
theorem newC {P : Program} (hP : P = Tryd.prog) (R : RO) {K : RO → List (Nat × HB) → Nat → List Row → SV → Prop}
    (hg : ∀ (R1 : RO) (a : Option Addr) (n c : Nat), R.le R1 → RI R1 .u32 a n (cn 0) → n ≤ c → K R1 [(0, ⟨50, [.v (.bool false), .v (.slice a n c)]⟩)] 1 [] (.p 0 0)) :
    CallP P 26 [.v (.int .i64 0)] R [] 0 [] K := by
  subst hP
  refine callP_of_vc (fz := []) Tryd.func26 rfl (by decide) (Nat.le_of_ble_eq_true rfl) ok26 (by simp [labL, lab]) ?_
  rintro P ⟨bin, cmp, cnv, neg, com, bnot, beq, ofN, toN, at_, sub_, scmp, cat, sget, ssz, ssub, elem, fld_⟩ hP hA
  conv => cbv
  refine callP_in (fz := []) hP hA Tryd.func41 rfl (by decide) rfl ok41 (by simp [labL, lab]) ?_
  conv => cbv
  have cl : cmp .lss 0 0 = false := by rw [cmp_lss hA]; rfl
  simp (maxSteps := 10000000) only [cl]
  conv => cbv
  refine (natOfP hP R 0 (cnv .u64 0) (by exact cnv_u64 hA (by decide)) (by decide)).callP rfl ?_
  rintro R1 _ hR1 ⟨a, n, c, rfl, hr, hc⟩
  conv => cbv
  simp (maxSteps := 10000000) only [cl]
  conv => cbv
  exact hg R1 a n c hR1 hr hc

set_option maxRecDepth 100000 in
set_option maxHeartbeats 4000000 in
theorem addC {P : Program} (hP : P = Tryd.prog) (R : RO) (rs : List Row) (X Y : Nat) (a : Option Addr) (n c : Nat) (hx : RI R .u32 a n (cn X)) (hn : n ≤ 10000) (b : Option Addr) (k e : Nat) (hy : RI R .u32 b k (cn Y)) (hk : k ≤ 10000)
    {K : RO → List (Nat × HB) → Nat → List Row → SV → Prop}
    (hg : ∀ (R1 : RO) (a : Option Addr) (n c : Nat), R.le R1 → RI R1 .u32 a n (cn (X + Y)) → n ≤ c → K R1 [(1, ⟨50, [.v (.bool false), .v (.slice b k e)]⟩), (0, ⟨50, [.v (.bool false), .v (.slice a n c)]⟩)] 2 rs (.p 0 0)) :
    CallP P 29 [.p 0 0, .p 0 0, .p 1 0] R [(1, ⟨50, [.v (.bool false), .v (.slice b k e)]⟩), (0, ⟨50, [.v (.bool false), .v (.slice a n c)]⟩)] 2 rs K := by
  subst hP
  refine callP_of_vc (fz := []) Tryd.func29 rfl (by decide) (Nat.le_of_ble_eq_true rfl) ok29 (by simp [labL, lab]) ?_
  rintro P ⟨bin, cmp, cnv, neg, com, bnot, beq, ofN, toN, at_, sub_, scmp, cat, sget, ssz, ssub, elem, fld_⟩ hP hA
  conv => cbv
  have bff : beq false false = true := by rw [beq_ hA]; rfl
  refine ⟨[0, 1, 2, 3, 4, 5, 6, 7, 8, 9, 10, 11], [10], mix hP, by decide +kernel, ?_⟩
  conv => cbv
  refine callP_in (fz := []) hP hA Tryd.func44 rfl (by decide) rfl ok44 (by simp [labL, lab]) ?_
  conv => cbv
  refine (cmpN hP R a b n c k e X Y hx hn hy hk).callQ rfl ?_
  rintro _ ⟨ci, rfl, hci, -⟩
  conv => cbv
  simp (maxSteps := 10000000) only [bff]
  conv => cbv
  refine ⟨[0, 1, 2, 3, 4, 5, 6, 8, 9, 10, 11, 7, 12, 13, 14, 15, 16, 17], [14, 17], mix hP, by decide +kernel, ?_⟩
  conv => cbv
  refine (addP hP R a b n c k e X Y hx hn hy hk).callP rfl ?_
  rintro R1 _ hR1 ⟨a1, n1, c1, rfl, hr, hc⟩
  conv => cbv
  refine ⟨⟨⟨rfl, rfl, trivial⟩, .refl _⟩, ?_⟩
  conv => cbv
  have on := ofN_ hA n1
  have hn0 : n1 = 0 ∨ n1 ≠ 0 := by omega
  rcases hn0 with hn0 | hn0
  · have cg : cmp .gtr (ofN n1) 0 = false := by rw [on, cmp_gtr hA]; simp; omega
    simp (maxSteps := 10000000) only [cg]
    conv => cbv
    exact hg R1 a1 n1 c1 hR1 hr hc
  have cg : cmp .gtr (ofN n1) 0 = true := by rw [on, cmp_gtr hA]; simp; omega
  simp (maxSteps := 10000000) only [cg]
  conv => cbv
  exact hg R1 a1 n1 c1 hR1 hr hc
end Go.Proofs.YtepfbdfbfimefaaDoor.Bf
