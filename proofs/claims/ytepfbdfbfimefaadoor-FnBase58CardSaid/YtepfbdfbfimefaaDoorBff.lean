/- The reference: bytes in base 58. -/
import Derived.Test.YtepfbdfbfimefaaDoorBfa
import Derived.Test.YtepfbdfbfimefaaDoorDsa
import Derived.Test.YtepfbdfbfimefaaDoorSl
import Derived.Test.YtepfbdfbfimefaaDoorProg
import Derived.KernelRfl
-- merged
/- The types that some functions name, as the evaluator wants them. Printed by a program of my own (seatgen.py). -/
namespace Go.Proofs.YtepfbdfbfimefaaDoor.Tyef
open Go Go.Se Go.Proofs

/-- int -/
def y3 : Ty := ⟨.int .i64, 1, false, .int .i64 0, 8⟩
theorem ty3 : tyOf Tryd.prog 3 = some y3 := by kernel_rfl
/-- uint8 -/
def y5 : Ty := ⟨.int .u8, 1, false, .int .u8 0, 1⟩
theorem ty5 : tyOf Tryd.prog 5 = some y5 := by kernel_rfl
/-- string -/
def y9 : Ty := ⟨.str, 1, false, .string ByteArray.empty, 16⟩
theorem ty9 : tyOf Tryd.prog 9 = some y9 := by kernel_rfl
/-- []uint8 -/
def y22 : Ty := ⟨.slc 5, 1, false, .slice none 0 0, 24⟩
theorem ty22 : tyOf Tryd.prog 22 = some y22 := by kernel_rfl
/-- uint64 -/
def y33 : Ty := ⟨.int .u64, 1, false, .int .u64 0, 8⟩
theorem ty33 : tyOf Tryd.prog 33 = some y33 := by kernel_rfl

/-- function 6: pub-mintmark/spec.Base58 -/
def tys6 : Nat → Option Ty := fun t => find [(22, y22), (5, y5), (3, y3), (33, y33), (9, y9)] t
theorem ok6 : TysOk Tryd.prog tys6 := tysOk_of ⟨ty22, ty5, ty3, ty33, ty9, trivial⟩

/-- function 14: pub-mintmark/spec.overSmall -/
def tys14 : Nat → Option Ty := fun t => find [(22, y22), (5, y5), (3, y3), (33, y33)] t
theorem ok14 : TysOk Tryd.prog tys14 := tysOk_of ⟨ty22, ty5, ty3, ty33, trivial⟩
end Go.Proofs.YtepfbdfbfimefaaDoor.Tyef
set_option linter.unusedSimpArgs false
set_option linter.unusedVariables false
namespace Go.Proofs.YtepfbdfbfimefaaDoor.Bf
open Go Go.Se Go.Proofs Go.Proofs.YtepfbdfbfimefaaDoor.Co Go.Proofs.YtepfbdfbfimefaaDoor.Ht Go.Proofs.YtepfbdfbfimefaaDoor.Tyef

structure Lo4 where
  i : Int
  l : Int
  a : Option Addr
  n : Nat
  c : Nat
  zs : List Value
  rs : List Row

set_option maxRecDepth 100000 in
set_option maxHeartbeats 1000000 in
/-- A great number over a small one. -/
theorem overR {P : Program} (hP : P = Tryd.prog) (R : RO) (a : Option Addr) (n c : Nat) (xs : List Int) (h : RI R .u8 a n xs) (hc : n ≤ c) (hn : n ≤ 10000) (B : Nat) (bi : Int) (hbi : bi = B) (hB : 1 ≤ B) (hBl : B < 281474976710656) :
    RetP P 14 [.slice a n c, .int .u64 bi] R fun R' r => ∃ a' n' c' l, r = .tuple #[.slice a' n' c', .int .u64 l] ∧ RI R' .u8 a' n' (dl (be xs / B)).reverse ∧ n' ≤ c' ∧ l = (be xs % B : Nat) := by
  subst hP
  have hl := h.len
  have hby := By.of_wf h.wf
  refine retP_vc (fz := []) Tryd.func14 rfl (by decide) rfl ok14 ?_
  intro P bin cmp cnv neg com bnot beq ofN toN at_ sub_ scmp cat sget ssz ssub elem fld_ hP hA
  conv => cbv
  have o := ofN_ hA n
  refine ⟨Lo4, fun x => ⟨[(8, .v (.int .i64 x.i)), (7, .v (.int .u64 x.l)), (6, .v (.slice x.a x.n x.c)), (0, .v (.slice a n c)), (1, .v (.int .u64 bi))], R, [], 0, x.rs⟩,
    fun m x => ∃ (i q : Nat) (ys : List Int), x.i = i ∧ i ≤ n ∧ m = n - i ∧ x.l = (q : Nat) ∧ q < B ∧ Base1 x.rs [] x.a x.n x.c 5 1 x.zs ∧ x.zs = ints .u8 ys ∧ x.n = ys.length ∧ x.n = i ∧ By ys ∧ be ys * B + q = be (xs.take i) ∧ (x.n ≠ 0 → x.a.isSome = true),
    ⟨n, ⟨0, 0, none, 0, 0, [], []⟩, ⟨⟨rfl, rfl, rfl, rfl, rfl, trivial⟩, rfl, trivial, rfl, .refl _⟩, 0, 0, [], rfl, by omega, rfl, rfl, by omega, Base1.nil, rfl, rfl, rfl, (fun x hx => by cases hx), by simp [be, lev], fun e => absurd rfl e⟩, ?_⟩
  rintro m ⟨ii, l, a1, n1, c1, zs, rs⟩ ⟨i, q, ys, hi, hin, hm, hq, hqB, hb, hzs, hn1, hn1i, hyb, hyv, hsm⟩
  simp only at hi hq hb hzs hn1 hn1i hsm
  conv => cbv
  by_cases hlt : i < n
  case neg =>
    refine br_f (by rw [o, cmp_lss hA]; simp; omega) ?_
    conv => cbv
    have hv : be ys = be xs / B := by
      rw [List.take_of_length_le (by omega)] at hyv
      rw [← hyv, Nat.mul_comm, Nat.mul_add_div (by omega), Nat.div_eq_of_lt hqB, Nat.add_zero]
    have hrm : l = (be xs % B : Nat) := by
      rw [List.take_of_length_le (by omega)] at hyv
      rw [hq, ← hyv, Nat.mul_comm, Nat.mul_add_mod, Nat.mod_eq_of_lt hqB]
    rcases hb with ⟨rfl, rfl, rfl, rfl, rfl⟩ | rfl
    · have hy0 : ys = [] := List.eq_nil_of_length_eq_zero (by omega)
      have hr1 : RI R .u8 none 0 ys := by rw [hy0]; exact RI.nil
      refine (trimP hP R none 0 0 ys hr1 (Nat.le_refl _) (by omega)).callP rfl ?_
      rintro R2 _ hR2 ⟨a', n', c', rfl, hr, hc'⟩
      conv => cbv
      intro ρ R'' hle _ _
      exact ⟨a', n', c', l, rfl, by rw [← hv]; exact hr.le hle, hc', hrm⟩
    · refine CallP.pub 0 rfl (fun R1 hR1 hp1 => ?_) ⟨_, by rw [hP]; exact Tryd.func13, by decide, rfl⟩
      have hr1 : RI R1 .u8 a1 n1 ys := hp1.ri hn1 hsm rfl hzs hyb.wf
      refine (trimP hP R1 a1 n1 c1 ys hr1 (hp1.cap_ (by show (1 : Nat) ≠ 4096; decide) hsm) (by omega)).callP rfl ?_
      rintro R2 _ hR2 ⟨a', n', c', rfl, hr, hc'⟩
      conv => cbv
      intro ρ R'' hle _ _
      exact ⟨a', n', c', l, rfl, by rw [← hv]; exact hr.le hle, hc', hrm⟩
  refine br_t (by rw [o, cmp_lss hA]; simp; omega) ?_
  conv => cbv
  refine ix_ri h o i hi hlt ?_
  refine ld_u8 hA h (by omega) (by omega) ?_
  intro d hd hd0 hd1
  have hd' : xs[i]? = some d := by rw [getD_get (by omega), hd]; congr 2; omega
  obtain ⟨D, hD⟩ : ∃ D : Nat, d = D := ⟨d.toNat, by omega⟩
  conv => cbv
  have e1 : bin .add .u64 (bin .mul .u64 l 256) (cnv .u64 d) = ((q * 256 + D : Nat) : Int) := by
    have e2 : bin .mul .u64 l 256 = ((q * 256 : Nat) : Int) := by rw [hq, mul_u64 hA (by omega)]; omega
    rw [e2, cnv_u64 hA (by omega), hD, add_u64 hA (by omega)]
    omega
  have hqd : (q * 256 + D) / B < 256 := by
    rw [Nat.div_lt_iff_lt_mul (by omega)]
    have : (q + 1) * 256 ≤ B * 256 := Nat.mul_le_mul_right _ hqB
    omega
  refine ⟨by omega, ?_⟩
  have e3 : bin .quo .u64 (bin .add .u64 (bin .mul .u64 l 256) (cnv .u64 d)) bi = (((q * 256 + D) / B : Nat) : Int) := by
    rw [e1, hbi, quo_u64 hA (by omega) (by omega) (by omega)]
    exact (Int.natCast_ediv _ _).symm
  have e4 : cnv .u8 (bin .quo .u64 (bin .add .u64 (bin .mul .u64 l 256) (cnv .u64 d)) bi) = (((q * 256 + D) / B : Nat) : Int) := by
    rw [e3]
    have h5 : ∀ Q : Nat, Q < 256 → cnv .u8 (Q : Int) = (Q : Int) := fun Q hQ => cnv_u8 hA (by omega)
    exact h5 _ hqd
  refine ⟨n1, zs, _, _, _, 1, [.int .u8 (cnv .u8 (bin .quo .u64 (bin .add .u64 (bin .mul .u64 l 256) (cnv .u64 d)) bi))], hb.base, .refl _, .own _ _ _ _ _ _ rfl rfl rfl (by simp [Value.oneCell']), by omega, by omega, ?_⟩
  intro a' n' c' zs' hn' hz' hs'
  conv => cbv
  refine ⟨by omega, ?_⟩
  have e5 : bin .rem .u64 (bin .add .u64 (bin .mul .u64 l 256) (cnv .u64 d)) bi = (((q * 256 + D) % B : Nat) : Int) := by
    rw [e1, hbi, rem_u64 hA (by omega)]
    exact (Int.natCast_emod _ _).symm
  refine ⟨n - (i + 1), ⟨bin .add .i64 ii 1, bin .rem .u64 (bin .add .u64 (bin .mul .u64 l 256) (cnv .u64 d)) bi, a', n', c', zs', _⟩, by omega, ⟨⟨rfl, rfl, rfl, rfl, rfl, trivial⟩, rfl, trivial, rfl, .refl _⟩, i + 1, (q * 256 + D) % B, ys ++ [(((q * 256 + D) / B : Nat) : Int)], by show bin .add .i64 ii 1 = _; rw [hi, add_i64 hA (by omega)]; rfl, by omega, rfl, e5, Nat.mod_lt _ (by omega), Base1.row, ?_, ?_, ?_, ?_, ?_, hs'⟩
  · show zs' = _
    rw [hz', hzs, e4, ← ints_app]
    rfl
  · show n' = _
    rw [hn', hn1, List.length_append]
    rfl
  · show n' = _
    omega
  · intro x hx
    rcases List.mem_append.1 hx with hx | hx
    · exact hyb x hx
    · simp only [List.mem_cons, List.not_mem_nil, or_false] at hx
      rw [hx]
      have h6 : ∀ Q : Nat, Q < 256 → 0 ≤ (Q : Int) ∧ (Q : Int) ≤ 255 := fun Q hQ => by omega
      exact h6 _ hqd
  · rw [be_app, be_take hd', ← hyv, hD, Int.toNat_natCast, Int.toNat_natCast]
    have h1 := Nat.div_add_mod (q * 256 + D) B
    rw [Nat.add_mul, Nat.mul_comm ((q * 256 + D) / B) B, Nat.mul_assoc]
    rw [Nat.add_mul, Nat.mul_assoc (be ys) B 256, Nat.mul_comm B 256, ← Nat.mul_assoc (be ys) 256 B, Nat.mul_comm (be ys) 256, Nat.mul_assoc]
    omega

theorem lit58 : SB ⟨#[49,50,51,52,53,54,55,56,57,65,66,67,68,69,70,71,72,74,75,76,77,78,80,81,82,83,84,85,86,87,88,89,90,97,98,99,100,101,102,103,104,105,106,107,109,110,111,112,113,114,115,116,117,118,119,120,121,122]⟩ alph := rfl
theorem lit1 : SB ⟨#[49]⟩ [49] := rfl
theorem lit0 : SB ⟨#[]⟩ [] := rfl

theorem alph_sub {d : Nat} (h : d < 58) : (alph.drop d).take (d + 1 - d) = [ch d] := by
  have h1 := alph_get h
  obtain ⟨h2, h3⟩ := List.getElem?_eq_some_iff.1 h1
  rw [List.drop_eq_getElem_cons h2, h3, show d + 1 - d = 1 by omega]
  rfl

theorem dsL_256 {v n : Nat} (h : v < 256 ^ n) : (dsL v).length ≤ 2 * n := by
  refine dsL_len _ _ (Nat.lt_of_lt_of_le h ?_)
  rw [Nat.pow_mul]
  exact Nat.pow_le_pow_left (by decide) n

structure Lb5 where
  R : RO
  a : Option Addr
  n : Nat
  c : Nat
  s : ByteArray

structure Lb6 where
  i : Int
  s : ByteArray

set_option maxRecDepth 100000 in
set_option maxHeartbeats 2000000 in
theorem base58S {P : Program} (hP : P = Tryd.prog) (R : RO) (a : Option Addr) (n c : Nat) (xs : List Int) (h : RI R .u8 a n xs) (hc : n ≤ c) (hn : n ≤ 1000) :
    RetP P 6 [.slice a n c] R fun _ r => ∃ s, r = .string s ∧ SB s (enc xs) := by
  subst hP
  have hl := h.len
  have hby := By.of_wf h.wf
  have hV : be xs < 256 ^ n := by rw [hl]; exact be_lt hby
  refine retP_vc (fz := []) Tryd.func6 rfl (by decide) rfl ok6 ?_
  intro P bin cmp cnv neg com bnot beq ofN toN at_ sub_ scmp cat sget ssz ssub elem fld_ hP hA
  conv => cbv
  have o := ofN_ hA n
  refine (trimP hP R a n c xs h hc (by omega)).callP rfl ?_
  rintro R1 _ hR1 ⟨a1, n1, c1, rfl, hr1, hc1⟩
  conv => cbv
  have hz := congrArg List.length (zs0_be hby)
  rw [List.length_append, List.length_replicate, ← hr1.len, ← hl] at hz
  have ez : bin .sub .i64 (ofN n) (ofN n1) = (zs0 xs : Int) := by rw [o, ofN_ hA n1, sub_i64 hA (by omega)]; omega
  obtain ⟨zi, hzi⟩ : ∃ zi, zi = bin .sub .i64 (ofN n) (ofN n1) := ⟨_, rfl⟩
  rw [← hzi] at ez
  simp (maxSteps := 10000000) only [← hzi]
  refine (trimP hP R1 a n c xs (h.le hR1) hc (by omega)).callP rfl ?_
  rintro R2 _ hR2 ⟨a2, n2, c2, rfl, hr2, hc2⟩
  conv => cbv
  obtain ⟨T0, hT0⟩ : ∃ T0, T0 = ((dsL (be xs)).map ch).reverse := ⟨_, rfl⟩
  have hT0l : T0.length ≤ 2000 := by
    rw [hT0, List.length_reverse, List.length_map]
    have := dsL_256 hV
    omega
  refine ⟨Lb5, fun x => ⟨[(4, .v (.slice x.a x.n x.c)), (5, .v (.string x.s)), (3, .v (.int .i64 zi))], x.R, [], 0, []⟩,
    fun m x => ∃ (v : Nat) (ts : List Int), m = v ∧ RI x.R .u8 x.a x.n (dl v).reverse ∧ x.n ≤ x.c ∧ x.n ≤ n ∧ SB x.s ts ∧ ((dsL v).map ch).reverse ++ ts = T0,
    ⟨be xs, ⟨R2, a2, n2, c2, ⟨#[]⟩⟩, ⟨⟨rfl, rfl, rfl, trivial⟩, rfl, trivial, rfl, .refl _⟩, be xs, [], rfl, hr2, hc2, by show n2 ≤ n; have := hr1.len; have := hr2.len; omega, lit0, by rw [List.append_nil, hT0]⟩, ?_⟩
  rintro m ⟨R3, a3, n3, c3, s3⟩ ⟨v, ts, hm, hr3, hc3, hn3, hs3, hT3⟩
  simp only at hr3 hc3 hn3 hs3
  have hl3 := hr3.len
  rw [List.length_reverse] at hl3
  have o3 := ofN_ hA n3
  have hts : ts.length ≤ 2000 := by
    have := congrArg List.length hT3
    rw [List.length_append] at this
    omega
  conv => cbv
  by_cases hv : v = 0
  · rw [hv, dl0] at hl3
    rw [hv, dsL0] at hT3
    have hts0 : ts = T0 := by rw [← hT3]; rfl
    refine br_f (by rw [o3, cmp_gtr hA]; simp; exact hl3) ?_
    conv => cbv
    refine ⟨Lb6, fun x => ⟨[(32, .v (.int .i64 x.i)), (31, .v (.int .i64 zi)), (5, .v (.string x.s))], R3, [], 0, []⟩,
      fun m x => ∃ i : Nat, x.i = i ∧ i ≤ zs0 xs ∧ m = zs0 xs - i ∧ SB x.s (List.replicate i 49 ++ T0),
      ⟨zs0 xs, ⟨0, s3⟩, ⟨⟨rfl, rfl, rfl, trivial⟩, rfl, trivial, rfl, .refl _⟩, 0, rfl, Nat.zero_le _, rfl, by rw [← hts0]; exact hs3⟩, ?_⟩
    rintro m2 ⟨i2, s4⟩ ⟨i, hi, hiz, hm2, hs4⟩
    simp only at hi hs4
    conv => cbv
    by_cases hlt : i < zs0 xs
    · refine br_t (by rw [ez, cmp_lss hA]; simp; omega) ?_
      conv => cbv
      have hsz4 := hs4.size
      rw [List.length_append, List.length_replicate] at hsz4
      refine ⟨by show 1 + s4.size ≤ _; omega, ?_⟩
      have hs5 := sb_cat hA lit1 hs4
      conv => cbv
      exact ⟨zs0 xs - (i + 1), ⟨bin .add .i64 i2 1, cat ⟨#[49]⟩ s4⟩, by omega, ⟨⟨rfl, rfl, rfl, trivial⟩, rfl, trivial, rfl, .refl _⟩, i + 1, by show bin .add .i64 i2 1 = _; rw [hi, add_i64 hA (by omega)]; rfl, by omega, rfl, hs5⟩
    · refine br_f (by rw [ez, cmp_lss hA]; simp; omega) ?_
      conv => cbv
      intro ρ R'' _ _ _
      refine ⟨s4, rfl, ?_⟩
      rw [enc, ← hT0, show zs0 xs = i by omega]
      exact hs4
  have hn0 : n3 ≠ 0 := by
    rw [hl3]
    exact fun e => dl_ne hv (List.eq_nil_of_length_eq_zero e)
  refine br_t (by rw [o3, cmp_gtr hA]; simp; omega) ?_
  conv => cbv
  refine (overR hP R3 a3 n3 c3 _ hr3 hc3 (by omega) 58 58 rfl (by decide) (by decide)).callP rfl ?_
  rintro R4 _ hR4 ⟨a4, n4, c4, l, rfl, hr4, hc4, hlv⟩
  rw [be_rev] at hr4 hlv
  conv => cbv
  have hd58 : v % 58 < 58 := Nat.mod_lt _ (by decide)
  have el1 : bin .add .u64 l 1 = ((v % 58 + 1 : Nat) : Int) := by rw [hlv, add_u64 hA (by omega)]; rfl
  refine ⟨v % 58, v % 58 + 1, hlv.symm, el1.symm, by omega, by show v % 58 + 1 ≤ 58; omega, ?_⟩
  intro y hy
  have hys : SB y [ch (v % 58)] := by
    have := lit58.ext (v % 58) (v % 58 + 1)
    rw [alph_sub hd58] at this
    rw [hy]
    exact this
  conv => cbv
  have hz3 := hs3.size
  have hzy := hys.size
  refine ⟨by rw [hzy, hz3]; simp; omega, ?_⟩
  have hs5 := sb_cat hA hys hs3
  conv => cbv
  refine ⟨v / 58, ⟨R4, a4, n4, c4, cat y s3⟩, by omega, ⟨⟨rfl, rfl, rfl, trivial⟩, rfl, trivial, rfl, .refl _⟩, v / 58, _, rfl, hr4, hc4, ?_, hs5, ?_⟩
  · show n4 ≤ n
    have h4 := hr4.len
    rw [List.length_reverse] at h4
    have h5 : (dl v).length = (dl (v / 256)).length + 1 := by rw [dlS hv]; rfl
    have h6 : (dl (v / 58)).length ≤ (dl v).length := by
      by_cases h0 : v / 58 = 0
      · rw [h0, dl0]; exact Nat.zero_le _
      · obtain ⟨h7, h8⟩ := dl_len _ h0
        have h9 := dl_lt v
        have h10 : 256 ^ ((dl (v / 58)).length - 1) < 256 ^ (dl v).length := Nat.lt_of_le_of_lt h8 (Nat.lt_of_le_of_lt (Nat.div_le_self _ _) h9)
        have := (Nat.pow_lt_pow_iff_right (by decide : 1 < 256)).1 h10
        omega
    omega
  · rw [dsLS hv, List.map_cons, List.reverse_cons, List.append_assoc] at hT3
    exact hT3
end Go.Proofs.YtepfbdfbfimefaaDoor.Bf
