/- Texts of bech32: the sum, by the package. -/
import Derived.Test.YtfkdaelfehibcaaDoorBec
import Derived.Test.YtfkdaelfehibcaaDoorTybc
set_option linter.unusedSimpArgs false
set_option linter.unusedVariables false
namespace Go.Proofs.YtfkdaelfehibcaaDoor.Be
open Go Go.Se Go.Proofs Go.Proofs.YtfkdaelfehibcaaDoor.Tybc

def hiF (x : Int) : Nat := x.toNat / 32
def loF (x : Int) : Nat := x.toNat % 32
def byF (x : Int) : Nat := x.toNat

theorem hi_b (d : Int) (h : 0 ≤ d ∧ d ≤ 255) : hiF d < 2 ^ 30 := by
  unfold hiF
  omega
theorem lo_b (d : Int) (h : 0 ≤ d ∧ d ≤ 255) : loF d < 2 ^ 30 := by
  unfold loF
  omega
theorem by_b (d : Int) (h : 0 ≤ d ∧ d ≤ 255) : byF d < 2 ^ 30 := by
  unfold byF
  omega
theorem hi_s (d : Int) (h : 0 ≤ d ∧ d ≤ 255) : hiF d < 32 := by
  unfold hiF
  omega

def gens : List Int := [996825010, 642813549, 513874426, 1027748829, 705979059]

theorem gens_at : ∀ m < 5, gens.getD m 0 = ((gn m : Nat) : Int) := by decide

/-- The package's numbers. -/
def Gen (R : RO) (ga : Option Addr) (g5 cg : Nat) : Prop := CellsAt R ⟨1, 0, none⟩ [.slice ga g5 cg] ∧ RI R .i64 ga g5 gens

theorem Gen.le {R R' : RO} {ga : Option Addr} {g5 cg : Nat} (h : Gen R ga g5 cg) (hl : R.le R') : Gen R' ga g5 cg := ⟨h.1.le hl, h.2.le hl⟩

theorem pmL_f {f : Int → Nat} (hf : ∀ d, 0 ≤ d ∧ d ≤ 255 → f d < 2 ^ 30) {l : List Int} (hl : ∀ x ∈ l, 0 ≤ x ∧ x ≤ 255) {c : Nat} (hc : c < 2 ^ 30) (j : Nat) : pmL ((l.take j).map f) c < 2 ^ 30 :=
  pmL_lt (fun v hv => by
    obtain ⟨d, hd, rfl⟩ := List.mem_map.1 hv
    exact hf d (hl d (List.mem_of_mem_take hd))) hc

theorem pm_take (f : Int → Nat) {l : List Int} {j : Nat} {d : Int} (hd : l[j]? = some d) (c : Nat) : pmL ((l.take (j + 1)).map f) c = pmR (pmL ((l.take j).map f) c) (f d) := by
  rw [take_snoc hd, List.map_append, pmL_app]
  rfl

section
variable {bin : BinOp → IntKind → Int → Int → Int} {cmp : BinOp → Int → Int → Bool} {cnv : IntKind → Int → Int} {neg : IntKind → Int → Int} {com : IntKind → Int → Int} {bnot : Bool → Bool} {beq : Bool → Bool → Bool} {ofN : Nat → Int} {toN : Int → Nat} {at_ : Nat → Nat → Nat → Nat} {sub_ : Nat → Nat → Nat} {scmp : BinOp → ByteArray → ByteArray → Bool} {cat : ByteArray → ByteArray → ByteArray} {sget : ByteArray → Int → Int} {ssz : ByteArray → Nat} {ssub : ByteArray → Nat → Nat → ByteArray} {elem : Option Addr → Int → Nat → Addr} {fld_ : Addr → Nat → Addr}
  (hA : (⟨bin, cmp, cnv, neg, com, bnot, beq, ofN, toN, at_, sub_, scmp, cat, sget, ssz, ssub, elem, fld_⟩ : Ar) = Ar.real)
include hA

theorem and_n {x y : Nat} (h1 : x < 4294967296) (h2 : y < 4294967296) : bin .and .i64 (x : Int) (y : Int) = ((x &&& y : Nat) : Int) := by
  rw [bin_is hA]
  have e1 : (BitVec.ofInt 64 (x : Int)).toNat = x := by rw [BitVec.ofInt_natCast, BitVec.toNat_ofNat, Nat.mod_eq_of_lt (by omega)]
  have e2 : (BitVec.ofInt 64 (y : Int)).toNat = y := by rw [BitVec.ofInt_natCast, BitVec.toNat_ofNat, Nat.mod_eq_of_lt (by omega)]
  show IntKind.i64.wrap ((BitVec.ofInt 64 (x : Int) &&& BitVec.ofInt 64 (y : Int)).toNat : Int) = _
  rw [BitVec.toNat_and, e1, e2]
  have := Nat.and_le_left (n := x) (m := y)
  exact w_i64 (by omega)

theorem xor_n {x y : Nat} (h1 : x < 4294967296) (h2 : y < 4294967296) : bin .xor .i64 (x : Int) (y : Int) = ((x ^^^ y : Nat) : Int) := by
  rw [bin_is hA]
  have e1 : (BitVec.ofInt 64 (x : Int)).toNat = x := by rw [BitVec.ofInt_natCast, BitVec.toNat_ofNat, Nat.mod_eq_of_lt (by omega)]
  have e2 : (BitVec.ofInt 64 (y : Int)).toNat = y := by rw [BitVec.ofInt_natCast, BitVec.toNat_ofNat, Nat.mod_eq_of_lt (by omega)]
  show IntKind.i64.wrap ((BitVec.ofInt 64 (x : Int) ^^^ BitVec.ofInt 64 (y : Int)).toNat : Int) = _
  rw [BitVec.toNat_xor, e1, e2]
  have := Nat.xor_lt_two_pow (n := 32) (x := x) (y := y) (by omega) (by omega)
  exact w_i64 (by omega)

theorem and_low {x : Nat} (k : Nat) (h1 : x < 4294967296) (hk : 2 ^ k - 1 < 4294967296) : bin .and .i64 (x : Int) ((2 ^ k - 1 : Nat) : Int) = ((x % 2 ^ k : Nat) : Int) := by
  rw [and_n hA h1 hk, Nat.and_two_pow_sub_one_eq_mod]

theorem topI {c : Nat} {cv : Int} (h : cv = c) : bin .shr .i64 cv 25 = ((c / 33554432 : Nat) : Int) := by
  rw [shr_i64 hA (by decide), h]
  show (c : Int) / 2 ^ 25 = _
  omega

theorem baseI {c : Nat} {cv : Int} (h : cv = c) (hc : c < 2 ^ 30) : bin .shl .i64 (bin .and .i64 cv 33554431) 5 = ((c % 33554432 * 32 : Nat) : Int) := by
  have e : bin .and .i64 cv 33554431 = ((c % 33554432 : Nat) : Int) := by
    rw [h]
    exact and_low hA 25 (by omega) (by decide)
  rw [e, shl_i64 hA (by decide)]
  · show ((c % 33554432 : Nat) : Int) * 2 ^ 5 = _
    omega
  · show _ ≤ ((c % 33554432 : Nat) : Int) * 2 ^ 5 ∧ ((c % 33554432 : Nat) : Int) * 2 ^ 5 ≤ _
    omega

theorem stepI {c v : Nat} {cv vv : Int} (h : cv = c) (hc : c < 2 ^ 30) (h2 : vv = v) (hv : v < 2 ^ 30) : bin .xor .i64 (bin .shl .i64 (bin .and .i64 cv 33554431) 5) vv = ((pmB c v : Nat) : Int) := by
  rw [baseI hA h hc, h2, xor_n hA (by omega) (by omega)]
  rfl

theorem sepI {c : Nat} {cv : Int} (h : cv = c) (hc : c < 2 ^ 30) : bin .shl .i64 (bin .and .i64 cv 33554431) 5 = ((pmB c 0 : Nat) : Int) := by
  rw [baseI hA h hc, pmB, Nat.xor_zero]

theorem bitI {t m : Nat} {tv ii : Int} (h : tv = t) (ht : t < 64) (hi : ii = m) (hm : m < 5) : bin .and .i64 (bin .shr .i64 tv (cnv .u64 ii)) 1 = ((t / 2 ^ m % 2 : Nat) : Int) := by
  have e : bin .shr .i64 tv (cnv .u64 ii) = ((t / 2 ^ m : Nat) : Int) := by
    rw [cnv_u64 hA (by omega), shr_i64 hA (by omega), h, hi, Int.toNat_natCast]
    push_cast
    rfl
  rw [e]
  have h3 := Nat.div_le_self t (2 ^ m)
  exact and_low hA 1 (by omega) (by decide)

theorem hiI {d : Int} (h : 0 ≤ d ∧ d ≤ 255) : bin .shr .i64 (cnv .i64 d) 5 = ((hiF d : Nat) : Int) := by
  unfold hiF
  rw [cnv_i64 hA (by omega), shr_i64 hA (by decide)]
  show d / 2 ^ 5 = _
  omega

theorem loI {d : Int} (h : 0 ≤ d ∧ d ≤ 255) : bin .and .i64 (cnv .i64 d) 31 = ((loF d : Nat) : Int) := by
  unfold loF
  obtain ⟨D, rfl⟩ : ∃ D : Nat, d = D := ⟨d.toNat, by omega⟩
  rw [cnv_i64 hA (by omega), Int.toNat_natCast]
  exact and_low hA 5 (by omega) (by decide)

theorem byI {d : Int} (h : 0 ≤ d ∧ d ≤ 255) : cnv .i64 d = ((byF d : Nat) : Int) := by
  unfold byF
  rw [cnv_i64 hA (by omega)]
  omega
end

structure Lo where
  i : Int
  c : Int





theorem ri_b {R : RO} {a : Option Addr} {n : Nat} {xs : List Int} (h : RI R .u8 a n xs) : ∀ x ∈ xs, 0 ≤ x ∧ x ≤ 255 := fun x hx => by
  have := h.wf x hx
  simp [Lit.wf, IntKind.min, IntKind.max, IntKind.bits, IntKind.signed] at this
  omega

theorem pm_all (xs : List Int) (V W : List Nat) : pmL (xpd xs ++ V ++ W) 1 = pmL W (pmL V (pmL (xs.map loF) (pmR (pmL (xs.map hiF) 1) 0))) := by
  rw [pmL_app, pmL_app, show xpd xs = xs.map hiF ++ 0 :: xs.map loF from rfl, pmL_app]
  rfl

theorem pmL_g {f : Int → Nat} (hf : ∀ d, 0 ≤ d ∧ d ≤ 255 → f d < 2 ^ 30) {l : List Int} (hl : ∀ x ∈ l, 0 ≤ x ∧ x ≤ 255) {c : Nat} (hc : c < 2 ^ 30) : pmL (l.map f) c < 2 ^ 30 := by
  have := pmL_f hf hl hc l.length
  rwa [List.take_length] at this


set_option maxRecDepth 100000 in
set_option maxHeartbeats 4000000 in
theorem polymodI {P : Program} (hP : P = Tryd.prog) (R : RO) (ga : Option Addr) (g5 cg : Nat) (hg : Gen R ga g5 cg) (hg5 : g5 = 5) (hgs : ga.isSome = true) (x : ByteArray) (xs : List Int) (hx : SB x xs) (hl : xs.length ≤ 100000) (hr : ∀ c ∈ xs, 0 ≤ c ∧ c ≤ 255)
    (a : Option Addr) (n c : Nat) (vs : List Int) (hv : RI R .u8 a n vs) (hn : n ≤ 100000) (b : Addr) (m2 k2 : Nat) (ws : List Int) (hw : RI R .u8 (some b) m2 ws) (hm2 : m2 ≤ 100000) :
    RetP P 24 [.string x, .slice a n c, .slice (some b) m2 k2] R fun _ r => ∃ p, r = .int .i64 p ∧ p = ((pmL (xpd xs ++ vs.map byF ++ ws.map byF) 1 : Nat) : Int) := by
  subst hP
  refine retP_vc (fz := []) Tryd.func24 rfl (by decide) rfl ok24 ?_
  intro P bin cmp cnv neg com bnot beq ofN toN at_ sub_ scmp cat sget ssz ssub elem fld_ hP hA
  conv => cbv
  have hsz := hx.size
  have oz : ofN (ssz x) = (xs.length : Int) := by rw [ofN_ hA, ssz_ hA, hsz]
  have hvl := hv.len
  refine ⟨Lo, fun y => ⟨[(8, .v (.int .i64 y.i)), (7, .v (.int .i64 y.c)), (0, .v (.string x)), (1, .v (.slice a n c)), (2, .v (.slice (some b) m2 k2))], R, [], 0, []⟩, fun k y => ∃ j : Nat, y.i = j ∧ j ≤ xs.length ∧ k = xs.length - j ∧ y.c = ((pmL ((xs.take j).map hiF) 1 : Nat) : Int),
    ⟨xs.length, ⟨0, 1⟩, ⟨⟨rfl, rfl, rfl, rfl, rfl, trivial⟩, rfl, trivial, rfl, .refl _⟩, 0, rfl, Nat.zero_le _, rfl, rfl⟩, ?_⟩
  rintro k ⟨i, c1⟩ ⟨j, hi, hj, hk, hc1⟩
  simp only at hi hc1
  conv => cbv
  by_cases hlt : j < xs.length
  case pos =>
    refine br_t (by rw [oz, cmp_lss hA]; simp; omega) ?_
    conv => cbv
    obtain ⟨d, hd⟩ : ∃ d, xs[j]? = some d := ⟨_, List.getElem?_eq_getElem hlt⟩
    have hdb := hr d (List.mem_of_getElem? hd)
    have hix : (0 : Int) ≤ i ∧ i < (x.size : Int) := by rw [hsz]; omega
    have hget : sget x i = d := sb_get hA hx j hi hd
    have hi2 : bin .add .i64 i 1 = ((j + 1 : Nat) : Int) := by rw [hi, add_i64 hA (by omega)]; rfl
    have hpt := pm_take hiF hd 1
    have hlim : pmL ((xs.take j).map hiF) 1 < 2 ^ 30 := pmL_f hi_b hr (by decide) j
    obtain ⟨X, hX⟩ : ∃ X, X = pmL ((xs.take j).map hiF) 1 := ⟨_, rfl⟩
    rw [← hX] at hc1 hpt hlim
    refine ⟨by decide, ?_⟩
    conv => cbv
    refine ⟨hix, ?_⟩
    simp (maxSteps := 10000000) only [hget]
    conv => cbv
    repeat (refine ⟨by decide, ?_⟩; conv => cbv)
    obtain ⟨tv, htv⟩ : ∃ t, t = bin .shr .i64 c1 25 := ⟨_, rfl⟩
    obtain ⟨bv, hbv⟩ : ∃ b, b = bin .xor .i64 (bin .shl .i64 (bin .and .i64 c1 33554431) 5) ((bin .shr .i64 (cnv .i64 d) 5)) := ⟨_, rfl⟩
    simp (maxSteps := 10000000) only [← htv, ← hbv]
    rw [topI hA hc1] at htv
    rw [stepI hA hc1 hlim (hiI hA hdb) (hi_b d hdb)] at hbv
    have hBlt := pmB_lt (c := X) (v := hiF d) (hi_b d hdb)
    refine ⟨Lo, fun y => ⟨[(11, .v (.int .i64 y.i)), (7, .v (.int .i64 y.c)), (9, .v (.int .i64 tv)), (8, .v (.int .i64 i)), (0, .v (.string x)), (1, .v (.slice a n c)), (2, .v (.slice (some b) m2 k2))], R, [], 0, []⟩, fun k y => ∃ m : Nat, y.i = m ∧ m ≤ 5 ∧ k = 5 - m ∧ y.c = ((pmK (X / 33554432) m (pmB X (hiF d)) : Nat) : Int),
      ⟨5, ⟨0, bv⟩, ⟨⟨rfl, rfl, rfl, rfl, rfl, rfl, rfl, trivial⟩, rfl, trivial, rfl, .refl _⟩, 0, rfl, Nat.zero_le _, rfl, hbv⟩, ?_⟩
    rintro kk ⟨ii, cc⟩ ⟨m, hii, hm, hkk, hcc⟩
    simp only at hii hcc
    conv => cbv
    by_cases hm5 : m < 5
    case pos =>
      refine br_t (by rw [cmp_lss hA]; simp; omega) ?_
      conv => cbv
      have hbit := bitI hA htv (by omega) hii hm5
      have hpk : pmK (X / 33554432) (m + 1) (pmB X (hiF d)) = if (X / 33554432) / 2 ^ m % 2 = 1 then pmK (X / 33554432) m (pmB X (hiF d)) ^^^ gn m else pmK (X / 33554432) m (pmB X (hiF d)) := rfl
      have hin : bin .add .i64 ii 1 = ((m + 1 : Nat) : Int) := by rw [hii, add_i64 hA (by omega)]; rfl
      refine ⟨by rw [cnv_u64 hA (by omega)]; omega, ?_⟩
      conv => cbv
      by_cases hb1 : (X / 33554432) / 2 ^ m % 2 = 1
      case pos =>
        rw [if_pos hb1] at hpk
        refine br_t (by rw [hbit, cmp_eql hA, hb1]; rfl) ?_
        conv => cbv
        refine ld_at0 hg.1 rfl ?_
        conv => cbv
        refine ⟨by omega, by rw [ofN_ hA, hg5]; omega, hgs, ?_⟩
        conv => cbv
        refine ld_ri hA hg.2 (by omega) (by omega) ?_
        intro g9 hg9 _
        rw [show ii.toNat = m by omega, gens_at m hm5] at hg9
        conv => cbv
        have hx9 : bin .xor .i64 cc g9 = ((pmK (X / 33554432) (m + 1) (pmB X (hiF d)) : Nat) : Int) := by
          have h1 := pmK_lt (X / 33554432) m (c := (pmB X (hiF d))) (by assumption)
          have h2 := gn_lt m
          rw [hcc, hg9, xor_n hA (by omega) (by omega), hpk]
        exact ⟨5 - (m + 1), ⟨bin .add .i64 ii 1, bin .xor .i64 cc g9⟩, by omega, ⟨⟨rfl, rfl, rfl, rfl, rfl, rfl, rfl, trivial⟩, rfl, trivial, rfl, .refl _⟩, m + 1, hin, hm5, rfl, hx9⟩
      rw [if_neg hb1] at hpk
      refine br_f (by rw [hbit, cmp_eql hA]; exact beq_false_of_ne (by omega)) ?_
      conv => cbv
      exact ⟨5 - (m + 1), ⟨bin .add .i64 ii 1, cc⟩, by omega, ⟨⟨rfl, rfl, rfl, rfl, rfl, rfl, rfl, trivial⟩, rfl, trivial, rfl, .refl _⟩, m + 1, hin, hm5, rfl, by rw [hpk]; exact hcc⟩
    refine br_f (by rw [cmp_lss hA]; simp; omega) ?_
    have hm6 : m = 5 := by omega
    subst hm6
    clear hm5 hm hii hkk
    conv => cbv
    exact ⟨xs.length - (j + 1), ⟨bin .add .i64 i 1, cc⟩, by omega, ⟨⟨rfl, rfl, rfl, rfl, rfl, trivial⟩, rfl, trivial, rfl, .refl _⟩, j + 1, hi2, hlt, rfl, by show cc = _; rw [hcc, hpt]; rfl⟩
  refine br_f (by rw [oz, cmp_lss hA]; simp; omega) ?_
  have hjl : j = xs.length := by omega
  subst hjl
  rw [List.take_length] at hc1
  conv => cbv
  obtain ⟨X1, hX1⟩ : ∃ X, X = pmL (xs.map hiF) 1 := ⟨_, rfl⟩
  have hX1l : X1 < 2 ^ 30 := by rw [hX1]; exact pmL_g hi_b hr (by decide)
  rw [← hX1] at hc1
  repeat (refine ⟨by decide, ?_⟩; conv => cbv)
  obtain ⟨tv, htv⟩ : ∃ t, t = bin .shr .i64 c1 25 := ⟨_, rfl⟩
  obtain ⟨bv, hbv⟩ : ∃ b, b = bin .shl .i64 (bin .and .i64 c1 33554431) 5 := ⟨_, rfl⟩
  simp (maxSteps := 10000000) only [← htv, ← hbv]
  rw [topI hA hc1] at htv
  rw [sepI hA hc1 hX1l] at hbv
  have hBlt := pmB_lt (c := X1) (v := 0) (by decide)
  refine ⟨Lo, fun y => ⟨[(13, .v (.int .i64 y.i)), (7, .v (.int .i64 y.c)), (12, .v (.int .i64 tv)), (0, .v (.string x)), (1, .v (.slice a n c)), (2, .v (.slice (some b) m2 k2))], R, [], 0, []⟩, fun k y => ∃ m : Nat, y.i = m ∧ m ≤ 5 ∧ k = 5 - m ∧ y.c = ((pmK (X1 / 33554432) m (pmB X1 0) : Nat) : Int),
    ⟨5, ⟨0, bv⟩, ⟨⟨rfl, rfl, rfl, rfl, rfl, rfl, trivial⟩, rfl, trivial, rfl, .refl _⟩, 0, rfl, Nat.zero_le _, rfl, hbv⟩, ?_⟩
  rintro kk ⟨ii, cc⟩ ⟨m, hii, hm, hkk, hcc⟩
  simp only at hii hcc
  conv => cbv
  by_cases hm5 : m < 5
  case pos =>
    refine br_t (by rw [cmp_lss hA]; simp; omega) ?_
    conv => cbv
    have hbit := bitI hA htv (by omega) hii hm5
    have hpk : pmK (X1 / 33554432) (m + 1) (pmB X1 0) = if (X1 / 33554432) / 2 ^ m % 2 = 1 then pmK (X1 / 33554432) m (pmB X1 0) ^^^ gn m else pmK (X1 / 33554432) m (pmB X1 0) := rfl
    have hin : bin .add .i64 ii 1 = ((m + 1 : Nat) : Int) := by rw [hii, add_i64 hA (by omega)]; rfl
    refine ⟨by rw [cnv_u64 hA (by omega)]; omega, ?_⟩
    conv => cbv
    by_cases hb1 : (X1 / 33554432) / 2 ^ m % 2 = 1
    case pos =>
      rw [if_pos hb1] at hpk
      refine br_t (by rw [hbit, cmp_eql hA, hb1]; rfl) ?_
      conv => cbv
      refine ld_at0 hg.1 rfl ?_
      conv => cbv
      refine ⟨by omega, by rw [ofN_ hA, hg5]; omega, hgs, ?_⟩
      conv => cbv
      refine ld_ri hA hg.2 (by omega) (by omega) ?_
      intro g9 hg9 _
      rw [show ii.toNat = m by omega, gens_at m hm5] at hg9
      conv => cbv
      have hx9 : bin .xor .i64 cc g9 = ((pmK (X1 / 33554432) (m + 1) (pmB X1 0) : Nat) : Int) := by
        have h1 := pmK_lt (X1 / 33554432) m (c := (pmB X1 0)) (by assumption)
        have h2 := gn_lt m
        rw [hcc, hg9, xor_n hA (by omega) (by omega), hpk]
      exact ⟨5 - (m + 1), ⟨bin .add .i64 ii 1, bin .xor .i64 cc g9⟩, by omega, ⟨⟨rfl, rfl, rfl, rfl, rfl, rfl, trivial⟩, rfl, trivial, rfl, .refl _⟩, m + 1, hin, hm5, rfl, hx9⟩
    rw [if_neg hb1] at hpk
    refine br_f (by rw [hbit, cmp_eql hA]; exact beq_false_of_ne (by omega)) ?_
    conv => cbv
    exact ⟨5 - (m + 1), ⟨bin .add .i64 ii 1, cc⟩, by omega, ⟨⟨rfl, rfl, rfl, rfl, rfl, rfl, trivial⟩, rfl, trivial, rfl, .refl _⟩, m + 1, hin, hm5, rfl, by rw [hpk]; exact hcc⟩
  refine br_f (by rw [cmp_lss hA]; simp; omega) ?_
  have hm6 : m = 5 := by omega
  subst hm6
  clear hm5 hm hii hkk
  conv => cbv
  obtain ⟨X2, hX2⟩ : ∃ X, X = pmR X1 0 := ⟨_, rfl⟩
  have hc2 : cc = ((X2 : Nat) : Int) := by rw [hcc, hX2]; rfl
  have hX2l : X2 < 2 ^ 30 := by rw [hX2]; exact pmR_lt (by decide)
  clear hcc hBlt hbv htv
  refine ⟨Lo, fun y => ⟨[(14, .v (.int .i64 y.i)), (7, .v (.int .i64 y.c)), (0, .v (.string x)), (1, .v (.slice a n c)), (2, .v (.slice (some b) m2 k2))], R, [], 0, []⟩, fun k y => ∃ j : Nat, y.i = j ∧ j ≤ xs.length ∧ k = xs.length - j ∧ y.c = ((pmL ((xs.take j).map loF) X2 : Nat) : Int),
    ⟨xs.length, ⟨0, cc⟩, ⟨⟨rfl, rfl, rfl, rfl, rfl, trivial⟩, rfl, trivial, rfl, .refl _⟩, 0, rfl, Nat.zero_le _, rfl, hc2⟩, ?_⟩
  rintro k ⟨i, c1⟩ ⟨j, hi, hj, hk, hc1⟩
  simp only at hi hc1
  conv => cbv
  by_cases hlt : j < xs.length
  case pos =>
    refine br_t (by rw [oz, cmp_lss hA]; simp; omega) ?_
    conv => cbv
    obtain ⟨d, hd⟩ : ∃ d, xs[j]? = some d := ⟨_, List.getElem?_eq_getElem hlt⟩
    have hdb := hr d (List.mem_of_getElem? hd)
    have hix : (0 : Int) ≤ i ∧ i < (x.size : Int) := by rw [hsz]; omega
    have hget : sget x i = d := sb_get hA hx j hi hd
    have hi2 : bin .add .i64 i 1 = ((j + 1 : Nat) : Int) := by rw [hi, add_i64 hA (by omega)]; rfl
    have hpt := pm_take loF hd X2
    have hlim : pmL ((xs.take j).map loF) X2 < 2 ^ 30 := pmL_f lo_b hr hX2l j
    obtain ⟨X, hX⟩ : ∃ X, X = pmL ((xs.take j).map loF) X2 := ⟨_, rfl⟩
    rw [← hX] at hc1 hpt hlim
    refine ⟨by decide, ?_⟩
    conv => cbv
    refine ⟨hix, ?_⟩
    simp (maxSteps := 10000000) only [hget]
    conv => cbv
    repeat (refine ⟨by decide, ?_⟩; conv => cbv)
    obtain ⟨tv, htv⟩ : ∃ t, t = bin .shr .i64 c1 25 := ⟨_, rfl⟩
    obtain ⟨bv, hbv⟩ : ∃ b, b = bin .xor .i64 (bin .shl .i64 (bin .and .i64 c1 33554431) 5) ((bin .and .i64 (cnv .i64 d) 31)) := ⟨_, rfl⟩
    simp (maxSteps := 10000000) only [← htv, ← hbv]
    rw [topI hA hc1] at htv
    rw [stepI hA hc1 hlim (loI hA hdb) (lo_b d hdb)] at hbv
    have hBlt := pmB_lt (c := X) (v := loF d) (lo_b d hdb)
    refine ⟨Lo, fun y => ⟨[(17, .v (.int .i64 y.i)), (7, .v (.int .i64 y.c)), (15, .v (.int .i64 tv)), (14, .v (.int .i64 i)), (0, .v (.string x)), (1, .v (.slice a n c)), (2, .v (.slice (some b) m2 k2))], R, [], 0, []⟩, fun k y => ∃ m : Nat, y.i = m ∧ m ≤ 5 ∧ k = 5 - m ∧ y.c = ((pmK (X / 33554432) m (pmB X (loF d)) : Nat) : Int),
      ⟨5, ⟨0, bv⟩, ⟨⟨rfl, rfl, rfl, rfl, rfl, rfl, rfl, trivial⟩, rfl, trivial, rfl, .refl _⟩, 0, rfl, Nat.zero_le _, rfl, hbv⟩, ?_⟩
    rintro kk ⟨ii, cc⟩ ⟨m, hii, hm, hkk, hcc⟩
    simp only at hii hcc
    conv => cbv
    by_cases hm5 : m < 5
    case pos =>
      refine br_t (by rw [cmp_lss hA]; simp; omega) ?_
      conv => cbv
      have hbit := bitI hA htv (by omega) hii hm5
      have hpk : pmK (X / 33554432) (m + 1) (pmB X (loF d)) = if (X / 33554432) / 2 ^ m % 2 = 1 then pmK (X / 33554432) m (pmB X (loF d)) ^^^ gn m else pmK (X / 33554432) m (pmB X (loF d)) := rfl
      have hin : bin .add .i64 ii 1 = ((m + 1 : Nat) : Int) := by rw [hii, add_i64 hA (by omega)]; rfl
      refine ⟨by rw [cnv_u64 hA (by omega)]; omega, ?_⟩
      conv => cbv
      by_cases hb1 : (X / 33554432) / 2 ^ m % 2 = 1
      case pos =>
        rw [if_pos hb1] at hpk
        refine br_t (by rw [hbit, cmp_eql hA, hb1]; rfl) ?_
        conv => cbv
        refine ld_at0 hg.1 rfl ?_
        conv => cbv
        refine ⟨by omega, by rw [ofN_ hA, hg5]; omega, hgs, ?_⟩
        conv => cbv
        refine ld_ri hA hg.2 (by omega) (by omega) ?_
        intro g9 hg9 _
        rw [show ii.toNat = m by omega, gens_at m hm5] at hg9
        conv => cbv
        have hx9 : bin .xor .i64 cc g9 = ((pmK (X / 33554432) (m + 1) (pmB X (loF d)) : Nat) : Int) := by
          have h1 := pmK_lt (X / 33554432) m (c := (pmB X (loF d))) (by assumption)
          have h2 := gn_lt m
          rw [hcc, hg9, xor_n hA (by omega) (by omega), hpk]
        exact ⟨5 - (m + 1), ⟨bin .add .i64 ii 1, bin .xor .i64 cc g9⟩, by omega, ⟨⟨rfl, rfl, rfl, rfl, rfl, rfl, rfl, trivial⟩, rfl, trivial, rfl, .refl _⟩, m + 1, hin, hm5, rfl, hx9⟩
      rw [if_neg hb1] at hpk
      refine br_f (by rw [hbit, cmp_eql hA]; exact beq_false_of_ne (by omega)) ?_
      conv => cbv
      exact ⟨5 - (m + 1), ⟨bin .add .i64 ii 1, cc⟩, by omega, ⟨⟨rfl, rfl, rfl, rfl, rfl, rfl, rfl, trivial⟩, rfl, trivial, rfl, .refl _⟩, m + 1, hin, hm5, rfl, by rw [hpk]; exact hcc⟩
    refine br_f (by rw [cmp_lss hA]; simp; omega) ?_
    have hm6 : m = 5 := by omega
    subst hm6
    clear hm5 hm hii hkk
    conv => cbv
    exact ⟨xs.length - (j + 1), ⟨bin .add .i64 i 1, cc⟩, by omega, ⟨⟨rfl, rfl, rfl, rfl, rfl, trivial⟩, rfl, trivial, rfl, .refl _⟩, j + 1, hi2, hlt, rfl, by show cc = _; rw [hcc, hpt]; rfl⟩
  refine br_f (by rw [oz, cmp_lss hA]; simp; omega) ?_
  have hjl : j = xs.length := by omega
  subst hjl
  rw [List.take_length] at hc1
  conv => cbv
  obtain ⟨X3, hX3⟩ : ∃ X, X = pmL (xs.map loF) X2 := ⟨_, rfl⟩
  have hX3l : X3 < 2 ^ 30 := by rw [hX3]; exact pmL_g lo_b hr hX2l
  rw [← hX3] at hc1
  refine ⟨Lo, fun y => ⟨[(120, .v (.int .i64 y.i)), (119, .v (.int .i64 (ofN n))), (118, .v (.slice a n c)), (7, .v (.int .i64 y.c)), (2, .v (.slice (some b) m2 k2))], R, [], 0, []⟩, fun k y => ∃ j : Nat, y.i = j ∧ j ≤ vs.length ∧ k = vs.length - j ∧ y.c = ((pmL ((vs.take j).map byF) X3 : Nat) : Int),
    ⟨vs.length, ⟨0, c1⟩, ⟨⟨rfl, rfl, rfl, rfl, rfl, trivial⟩, rfl, trivial, rfl, .refl _⟩, 0, rfl, Nat.zero_le _, rfl, hc1⟩, ?_⟩
  rintro k ⟨i, c1⟩ ⟨j, hi, hj, hk, hc1⟩
  simp only at hi hc1
  conv => cbv
  by_cases hlt : j < vs.length
  case pos =>
    refine br_t (by rw [ofN_ hA, cmp_lss hA]; simp; omega) ?_
    conv => cbv
    obtain ⟨d, hd⟩ : ∃ d, vs[j]? = some d := ⟨_, List.getElem?_eq_getElem hlt⟩
    have hi2 : bin .add .i64 i 1 = ((j + 1 : Nat) : Int) := by rw [hi, add_i64 hA (by omega)]; rfl
    have hpt := pm_take byF hd X3
    have hlim : pmL ((vs.take j).map byF) X3 < 2 ^ 30 := pmL_f by_b (ri_b hv) hX3l j
    obtain ⟨X, hX⟩ : ∃ X, X = pmL ((vs.take j).map byF) X3 := ⟨_, rfl⟩
    rw [← hX] at hc1 hpt hlim
    refine ix_u8 hA hv j hi (by omega) ?_
    conv => cbv
    refine ld_u8 hA hv (by omega) (by omega) ?_
    intro d1 hd1 d0 d255
    obtain rfl : d1 = d := by rw [hd1, hi, Int.toNat_natCast, List.getD_eq_getElem?_getD, hd]; rfl
    conv => cbv
    repeat (refine ⟨by decide, ?_⟩; conv => cbv)
    obtain ⟨tv, htv⟩ : ∃ t, t = bin .shr .i64 c1 25 := ⟨_, rfl⟩
    obtain ⟨bv, hbv⟩ : ∃ b, b = bin .xor .i64 (bin .shl .i64 (bin .and .i64 c1 33554431) 5) (cnv .i64 d1) := ⟨_, rfl⟩
    simp (maxSteps := 10000000) only [← htv, ← hbv]
    rw [topI hA hc1] at htv
    rw [stepI hA hc1 hlim (byI hA ⟨d0, d255⟩) (by_b d1 ⟨d0, d255⟩)] at hbv
    have hBlt := pmB_lt (c := X) (v := byF d1) (by_b d1 ⟨d0, d255⟩)
    refine ⟨Lo, fun y => ⟨[(21, .v (.int .i64 y.i)), (7, .v (.int .i64 y.c)), (20, .v (.int .i64 tv)), (120, .v (.int .i64 i)), (119, .v (.int .i64 (ofN n))), (118, .v (.slice a n c)), (2, .v (.slice (some b) m2 k2))], R, [], 0, []⟩, fun k y => ∃ m : Nat, y.i = m ∧ m ≤ 5 ∧ k = 5 - m ∧ y.c = ((pmK (X / 33554432) m (pmB X (byF d1)) : Nat) : Int),
      ⟨5, ⟨0, bv⟩, ⟨⟨rfl, rfl, rfl, rfl, rfl, rfl, rfl, trivial⟩, rfl, trivial, rfl, .refl _⟩, 0, rfl, Nat.zero_le _, rfl, hbv⟩, ?_⟩
    rintro kk ⟨ii, cc⟩ ⟨m, hii, hm, hkk, hcc⟩
    simp only at hii hcc
    conv => cbv
    by_cases hm5 : m < 5
    case pos =>
      refine br_t (by rw [cmp_lss hA]; simp; omega) ?_
      conv => cbv
      have hbit := bitI hA htv (by omega) hii hm5
      have hpk : pmK (X / 33554432) (m + 1) (pmB X (byF d1)) = if (X / 33554432) / 2 ^ m % 2 = 1 then pmK (X / 33554432) m (pmB X (byF d1)) ^^^ gn m else pmK (X / 33554432) m (pmB X (byF d1)) := rfl
      have hin : bin .add .i64 ii 1 = ((m + 1 : Nat) : Int) := by rw [hii, add_i64 hA (by omega)]; rfl
      refine ⟨by rw [cnv_u64 hA (by omega)]; omega, ?_⟩
      conv => cbv
      by_cases hb1 : (X / 33554432) / 2 ^ m % 2 = 1
      case pos =>
        rw [if_pos hb1] at hpk
        refine br_t (by rw [hbit, cmp_eql hA, hb1]; rfl) ?_
        conv => cbv
        refine ld_at0 hg.1 rfl ?_
        conv => cbv
        refine ⟨by omega, by rw [ofN_ hA, hg5]; omega, hgs, ?_⟩
        conv => cbv
        refine ld_ri hA hg.2 (by omega) (by omega) ?_
        intro g9 hg9 _
        rw [show ii.toNat = m by omega, gens_at m hm5] at hg9
        conv => cbv
        have hx9 : bin .xor .i64 cc g9 = ((pmK (X / 33554432) (m + 1) (pmB X (byF d1)) : Nat) : Int) := by
          have h1 := pmK_lt (X / 33554432) m (c := (pmB X (byF d1))) (by assumption)
          have h2 := gn_lt m
          rw [hcc, hg9, xor_n hA (by omega) (by omega), hpk]
        exact ⟨5 - (m + 1), ⟨bin .add .i64 ii 1, bin .xor .i64 cc g9⟩, by omega, ⟨⟨rfl, rfl, rfl, rfl, rfl, rfl, rfl, trivial⟩, rfl, trivial, rfl, .refl _⟩, m + 1, hin, hm5, rfl, hx9⟩
      rw [if_neg hb1] at hpk
      refine br_f (by rw [hbit, cmp_eql hA]; exact beq_false_of_ne (by omega)) ?_
      conv => cbv
      exact ⟨5 - (m + 1), ⟨bin .add .i64 ii 1, cc⟩, by omega, ⟨⟨rfl, rfl, rfl, rfl, rfl, rfl, rfl, trivial⟩, rfl, trivial, rfl, .refl _⟩, m + 1, hin, hm5, rfl, by rw [hpk]; exact hcc⟩
    refine br_f (by rw [cmp_lss hA]; simp; omega) ?_
    have hm6 : m = 5 := by omega
    subst hm6
    clear hm5 hm hii hkk
    conv => cbv
    exact ⟨vs.length - (j + 1), ⟨bin .add .i64 i 1, cc⟩, by omega, ⟨⟨rfl, rfl, rfl, rfl, rfl, trivial⟩, rfl, trivial, rfl, .refl _⟩, j + 1, hi2, hlt, rfl, by show cc = _; rw [hcc, hpt]; rfl⟩
  refine br_f (by rw [ofN_ hA, cmp_lss hA]; simp; omega) ?_
  have hjl : j = vs.length := by omega
  subst hjl
  rw [List.take_length] at hc1
  conv => cbv
  obtain ⟨X4, hX4⟩ : ∃ X, X = pmL (vs.map byF) X3 := ⟨_, rfl⟩
  have hX4l : X4 < 2 ^ 30 := by rw [hX4]; exact pmL_g by_b (ri_b hv) hX3l
  rw [← hX4] at hc1
  have hwl := hw.len
  refine ⟨Lo, fun y => ⟨[(178, .v (.int .i64 y.i)), (177, .v (.int .i64 (ofN m2))), (176, .v (.slice (some b) m2 k2)), (7, .v (.int .i64 y.c))], R, [], 0, []⟩, fun k y => ∃ j : Nat, y.i = j ∧ j ≤ ws.length ∧ k = ws.length - j ∧ y.c = ((pmL ((ws.take j).map byF) X4 : Nat) : Int),
    ⟨ws.length, ⟨0, c1⟩, ⟨⟨rfl, rfl, rfl, rfl,  trivial⟩, rfl, trivial, rfl, .refl _⟩, 0, rfl, Nat.zero_le _, rfl, hc1⟩, ?_⟩
  rintro k ⟨i, c1⟩ ⟨j, hi, hj, hk, hc1⟩
  simp only at hi hc1
  conv => cbv
  by_cases hlt : j < ws.length
  case pos =>
    refine br_t (by rw [ofN_ hA, cmp_lss hA]; simp; omega) ?_
    conv => cbv
    obtain ⟨d, hd⟩ : ∃ d, ws[j]? = some d := ⟨_, List.getElem?_eq_getElem hlt⟩
    have hi2 : bin .add .i64 i 1 = ((j + 1 : Nat) : Int) := by rw [hi, add_i64 hA (by omega)]; rfl
    have hpt := pm_take byF hd X4
    have hlim : pmL ((ws.take j).map byF) X4 < 2 ^ 30 := pmL_f by_b (ri_b hw) hX4l j
    obtain ⟨X, hX⟩ : ∃ X, X = pmL ((ws.take j).map byF) X4 := ⟨_, rfl⟩
    rw [← hX] at hc1 hpt hlim
    refine ix_u8 hA hw j hi (by omega) ?_
    conv => cbv
    refine ld_u8 hA hw (by omega) (by omega) ?_
    intro d1 hd1 d0 d255
    obtain rfl : d1 = d := by rw [hd1, hi, Int.toNat_natCast, List.getD_eq_getElem?_getD, hd]; rfl
    conv => cbv
    repeat (refine ⟨by decide, ?_⟩; conv => cbv)
    obtain ⟨tv, htv⟩ : ∃ t, t = bin .shr .i64 c1 25 := ⟨_, rfl⟩
    obtain ⟨bv, hbv⟩ : ∃ b, b = bin .xor .i64 (bin .shl .i64 (bin .and .i64 c1 33554431) 5) (cnv .i64 d1) := ⟨_, rfl⟩
    simp (maxSteps := 10000000) only [← htv, ← hbv]
    rw [topI hA hc1] at htv
    rw [stepI hA hc1 hlim (byI hA ⟨d0, d255⟩) (by_b d1 ⟨d0, d255⟩)] at hbv
    have hBlt := pmB_lt (c := X) (v := byF d1) (by_b d1 ⟨d0, d255⟩)
    refine ⟨Lo, fun y => ⟨[(28, .v (.int .i64 y.i)), (7, .v (.int .i64 y.c)), (27, .v (.int .i64 tv)), (178, .v (.int .i64 i)), (177, .v (.int .i64 (ofN m2))), (176, .v (.slice (some b) m2 k2))], R, [], 0, []⟩, fun k y => ∃ m : Nat, y.i = m ∧ m ≤ 5 ∧ k = 5 - m ∧ y.c = ((pmK (X / 33554432) m (pmB X (byF d1)) : Nat) : Int),
      ⟨5, ⟨0, bv⟩, ⟨⟨rfl, rfl, rfl, rfl, rfl, rfl, trivial⟩, rfl, trivial, rfl, .refl _⟩, 0, rfl, Nat.zero_le _, rfl, hbv⟩, ?_⟩
    rintro kk ⟨ii, cc⟩ ⟨m, hii, hm, hkk, hcc⟩
    simp only at hii hcc
    conv => cbv
    by_cases hm5 : m < 5
    case pos =>
      refine br_t (by rw [cmp_lss hA]; simp; omega) ?_
      conv => cbv
      have hbit := bitI hA htv (by omega) hii hm5
      have hpk : pmK (X / 33554432) (m + 1) (pmB X (byF d1)) = if (X / 33554432) / 2 ^ m % 2 = 1 then pmK (X / 33554432) m (pmB X (byF d1)) ^^^ gn m else pmK (X / 33554432) m (pmB X (byF d1)) := rfl
      have hin : bin .add .i64 ii 1 = ((m + 1 : Nat) : Int) := by rw [hii, add_i64 hA (by omega)]; rfl
      refine ⟨by rw [cnv_u64 hA (by omega)]; omega, ?_⟩
      conv => cbv
      by_cases hb1 : (X / 33554432) / 2 ^ m % 2 = 1
      case pos =>
        rw [if_pos hb1] at hpk
        refine br_t (by rw [hbit, cmp_eql hA, hb1]; rfl) ?_
        conv => cbv
        refine ld_at0 hg.1 rfl ?_
        conv => cbv
        refine ⟨by omega, by rw [ofN_ hA, hg5]; omega, hgs, ?_⟩
        conv => cbv
        refine ld_ri hA hg.2 (by omega) (by omega) ?_
        intro g9 hg9 _
        rw [show ii.toNat = m by omega, gens_at m hm5] at hg9
        conv => cbv
        have hx9 : bin .xor .i64 cc g9 = ((pmK (X / 33554432) (m + 1) (pmB X (byF d1)) : Nat) : Int) := by
          have h1 := pmK_lt (X / 33554432) m (c := (pmB X (byF d1))) (by assumption)
          have h2 := gn_lt m
          rw [hcc, hg9, xor_n hA (by omega) (by omega), hpk]
        exact ⟨5 - (m + 1), ⟨bin .add .i64 ii 1, bin .xor .i64 cc g9⟩, by omega, ⟨⟨rfl, rfl, rfl, rfl, rfl, rfl, trivial⟩, rfl, trivial, rfl, .refl _⟩, m + 1, hin, hm5, rfl, hx9⟩
      rw [if_neg hb1] at hpk
      refine br_f (by rw [hbit, cmp_eql hA]; exact beq_false_of_ne (by omega)) ?_
      conv => cbv
      exact ⟨5 - (m + 1), ⟨bin .add .i64 ii 1, cc⟩, by omega, ⟨⟨rfl, rfl, rfl, rfl, rfl, rfl, trivial⟩, rfl, trivial, rfl, .refl _⟩, m + 1, hin, hm5, rfl, by rw [hpk]; exact hcc⟩
    refine br_f (by rw [cmp_lss hA]; simp; omega) ?_
    have hm6 : m = 5 := by omega
    subst hm6
    clear hm5 hm hii hkk
    conv => cbv
    exact ⟨ws.length - (j + 1), ⟨bin .add .i64 i 1, cc⟩, by omega, ⟨⟨rfl, rfl, rfl, rfl,  trivial⟩, rfl, trivial, rfl, .refl _⟩, j + 1, hi2, hlt, rfl, by show cc = _; rw [hcc, hpt]; rfl⟩
  refine br_f (by rw [ofN_ hA, cmp_lss hA]; simp; omega) ?_
  have hjl : j = ws.length := by omega
  subst hjl
  rw [List.take_length] at hc1
  conv => cbv
  intro ρ R'' _ _ _
  exact ⟨_, rfl, by rw [hc1, pm_all, ← hX1, ← hX2, ← hX3, ← hX4]⟩

set_option maxRecDepth 100000 in
set_option maxHeartbeats 4000000 in
theorem polymodN {P : Program} (hP : P = Tryd.prog) (R : RO) (ga : Option Addr) (g5 cg : Nat) (hg : Gen R ga g5 cg) (hg5 : g5 = 5) (hgs : ga.isSome = true) (x : ByteArray) (xs : List Int) (hx : SB x xs) (hl : xs.length ≤ 100000) (hr : ∀ c ∈ xs, 0 ≤ c ∧ c ≤ 255)
    (a : Option Addr) (n c : Nat) (vs : List Int) (hv : RI R .u8 a n vs) (hn : n ≤ 100000) (m2 k2 : Nat) (hm0 : m2 = 0) :
    RetP P 24 [.string x, .slice a n c, .slice none m2 k2] R fun _ r => ∃ (p : Int) (q : Nat), r = .int .i64 p ∧ p = (q : Int) ∧ q < 2 ^ 30 := by
  subst hP
  refine retP_vc (fz := []) Tryd.func24 rfl (by decide) rfl ok24 ?_
  intro P bin cmp cnv neg com bnot beq ofN toN at_ sub_ scmp cat sget ssz ssub elem fld_ hP hA
  conv => cbv
  have hsz := hx.size
  have oz : ofN (ssz x) = (xs.length : Int) := by rw [ofN_ hA, ssz_ hA, hsz]
  have hvl := hv.len
  refine ⟨Lo, fun y => ⟨[(8, .v (.int .i64 y.i)), (7, .v (.int .i64 y.c)), (0, .v (.string x)), (1, .v (.slice a n c)), (2, .v (.slice none m2 k2))], R, [], 0, []⟩, fun k y => ∃ j : Nat, y.i = j ∧ j ≤ xs.length ∧ k = xs.length - j ∧ y.c = ((pmL ((xs.take j).map hiF) 1 : Nat) : Int),
    ⟨xs.length, ⟨0, 1⟩, ⟨⟨rfl, rfl, rfl, rfl, rfl, trivial⟩, rfl, trivial, rfl, .refl _⟩, 0, rfl, Nat.zero_le _, rfl, rfl⟩, ?_⟩
  rintro k ⟨i, c1⟩ ⟨j, hi, hj, hk, hc1⟩
  simp only at hi hc1
  conv => cbv
  by_cases hlt : j < xs.length
  case pos =>
    refine br_t (by rw [oz, cmp_lss hA]; simp; omega) ?_
    conv => cbv
    obtain ⟨d, hd⟩ : ∃ d, xs[j]? = some d := ⟨_, List.getElem?_eq_getElem hlt⟩
    have hdb := hr d (List.mem_of_getElem? hd)
    have hix : (0 : Int) ≤ i ∧ i < (x.size : Int) := by rw [hsz]; omega
    have hget : sget x i = d := sb_get hA hx j hi hd
    have hi2 : bin .add .i64 i 1 = ((j + 1 : Nat) : Int) := by rw [hi, add_i64 hA (by omega)]; rfl
    have hpt := pm_take hiF hd 1
    have hlim : pmL ((xs.take j).map hiF) 1 < 2 ^ 30 := pmL_f hi_b hr (by decide) j
    obtain ⟨X, hX⟩ : ∃ X, X = pmL ((xs.take j).map hiF) 1 := ⟨_, rfl⟩
    rw [← hX] at hc1 hpt hlim
    refine ⟨by decide, ?_⟩
    conv => cbv
    refine ⟨hix, ?_⟩
    simp (maxSteps := 10000000) only [hget]
    conv => cbv
    repeat (refine ⟨by decide, ?_⟩; conv => cbv)
    obtain ⟨tv, htv⟩ : ∃ t, t = bin .shr .i64 c1 25 := ⟨_, rfl⟩
    obtain ⟨bv, hbv⟩ : ∃ b, b = bin .xor .i64 (bin .shl .i64 (bin .and .i64 c1 33554431) 5) ((bin .shr .i64 (cnv .i64 d) 5)) := ⟨_, rfl⟩
    simp (maxSteps := 10000000) only [← htv, ← hbv]
    rw [topI hA hc1] at htv
    rw [stepI hA hc1 hlim (hiI hA hdb) (hi_b d hdb)] at hbv
    have hBlt := pmB_lt (c := X) (v := hiF d) (hi_b d hdb)
    refine ⟨Lo, fun y => ⟨[(11, .v (.int .i64 y.i)), (7, .v (.int .i64 y.c)), (9, .v (.int .i64 tv)), (8, .v (.int .i64 i)), (0, .v (.string x)), (1, .v (.slice a n c)), (2, .v (.slice none m2 k2))], R, [], 0, []⟩, fun k y => ∃ m : Nat, y.i = m ∧ m ≤ 5 ∧ k = 5 - m ∧ y.c = ((pmK (X / 33554432) m (pmB X (hiF d)) : Nat) : Int),
      ⟨5, ⟨0, bv⟩, ⟨⟨rfl, rfl, rfl, rfl, rfl, rfl, rfl, trivial⟩, rfl, trivial, rfl, .refl _⟩, 0, rfl, Nat.zero_le _, rfl, hbv⟩, ?_⟩
    rintro kk ⟨ii, cc⟩ ⟨m, hii, hm, hkk, hcc⟩
    simp only at hii hcc
    conv => cbv
    by_cases hm5 : m < 5
    case pos =>
      refine br_t (by rw [cmp_lss hA]; simp; omega) ?_
      conv => cbv
      have hbit := bitI hA htv (by omega) hii hm5
      have hpk : pmK (X / 33554432) (m + 1) (pmB X (hiF d)) = if (X / 33554432) / 2 ^ m % 2 = 1 then pmK (X / 33554432) m (pmB X (hiF d)) ^^^ gn m else pmK (X / 33554432) m (pmB X (hiF d)) := rfl
      have hin : bin .add .i64 ii 1 = ((m + 1 : Nat) : Int) := by rw [hii, add_i64 hA (by omega)]; rfl
      refine ⟨by rw [cnv_u64 hA (by omega)]; omega, ?_⟩
      conv => cbv
      by_cases hb1 : (X / 33554432) / 2 ^ m % 2 = 1
      case pos =>
        rw [if_pos hb1] at hpk
        refine br_t (by rw [hbit, cmp_eql hA, hb1]; rfl) ?_
        conv => cbv
        refine ld_at0 hg.1 rfl ?_
        conv => cbv
        refine ⟨by omega, by rw [ofN_ hA, hg5]; omega, hgs, ?_⟩
        conv => cbv
        refine ld_ri hA hg.2 (by omega) (by omega) ?_
        intro g9 hg9 _
        rw [show ii.toNat = m by omega, gens_at m hm5] at hg9
        conv => cbv
        have hx9 : bin .xor .i64 cc g9 = ((pmK (X / 33554432) (m + 1) (pmB X (hiF d)) : Nat) : Int) := by
          have h1 := pmK_lt (X / 33554432) m (c := (pmB X (hiF d))) (by assumption)
          have h2 := gn_lt m
          rw [hcc, hg9, xor_n hA (by omega) (by omega), hpk]
        exact ⟨5 - (m + 1), ⟨bin .add .i64 ii 1, bin .xor .i64 cc g9⟩, by omega, ⟨⟨rfl, rfl, rfl, rfl, rfl, rfl, rfl, trivial⟩, rfl, trivial, rfl, .refl _⟩, m + 1, hin, hm5, rfl, hx9⟩
      rw [if_neg hb1] at hpk
      refine br_f (by rw [hbit, cmp_eql hA]; exact beq_false_of_ne (by omega)) ?_
      conv => cbv
      exact ⟨5 - (m + 1), ⟨bin .add .i64 ii 1, cc⟩, by omega, ⟨⟨rfl, rfl, rfl, rfl, rfl, rfl, rfl, trivial⟩, rfl, trivial, rfl, .refl _⟩, m + 1, hin, hm5, rfl, by rw [hpk]; exact hcc⟩
    refine br_f (by rw [cmp_lss hA]; simp; omega) ?_
    have hm6 : m = 5 := by omega
    subst hm6
    clear hm5 hm hii hkk
    conv => cbv
    exact ⟨xs.length - (j + 1), ⟨bin .add .i64 i 1, cc⟩, by omega, ⟨⟨rfl, rfl, rfl, rfl, rfl, trivial⟩, rfl, trivial, rfl, .refl _⟩, j + 1, hi2, hlt, rfl, by show cc = _; rw [hcc, hpt]; rfl⟩
  refine br_f (by rw [oz, cmp_lss hA]; simp; omega) ?_
  have hjl : j = xs.length := by omega
  subst hjl
  rw [List.take_length] at hc1
  conv => cbv
  obtain ⟨X1, hX1⟩ : ∃ X, X = pmL (xs.map hiF) 1 := ⟨_, rfl⟩
  have hX1l : X1 < 2 ^ 30 := by rw [hX1]; exact pmL_g hi_b hr (by decide)
  rw [← hX1] at hc1
  repeat (refine ⟨by decide, ?_⟩; conv => cbv)
  obtain ⟨tv, htv⟩ : ∃ t, t = bin .shr .i64 c1 25 := ⟨_, rfl⟩
  obtain ⟨bv, hbv⟩ : ∃ b, b = bin .shl .i64 (bin .and .i64 c1 33554431) 5 := ⟨_, rfl⟩
  simp (maxSteps := 10000000) only [← htv, ← hbv]
  rw [topI hA hc1] at htv
  rw [sepI hA hc1 hX1l] at hbv
  have hBlt := pmB_lt (c := X1) (v := 0) (by decide)
  refine ⟨Lo, fun y => ⟨[(13, .v (.int .i64 y.i)), (7, .v (.int .i64 y.c)), (12, .v (.int .i64 tv)), (0, .v (.string x)), (1, .v (.slice a n c)), (2, .v (.slice none m2 k2))], R, [], 0, []⟩, fun k y => ∃ m : Nat, y.i = m ∧ m ≤ 5 ∧ k = 5 - m ∧ y.c = ((pmK (X1 / 33554432) m (pmB X1 0) : Nat) : Int),
    ⟨5, ⟨0, bv⟩, ⟨⟨rfl, rfl, rfl, rfl, rfl, rfl, trivial⟩, rfl, trivial, rfl, .refl _⟩, 0, rfl, Nat.zero_le _, rfl, hbv⟩, ?_⟩
  rintro kk ⟨ii, cc⟩ ⟨m, hii, hm, hkk, hcc⟩
  simp only at hii hcc
  conv => cbv
  by_cases hm5 : m < 5
  case pos =>
    refine br_t (by rw [cmp_lss hA]; simp; omega) ?_
    conv => cbv
    have hbit := bitI hA htv (by omega) hii hm5
    have hpk : pmK (X1 / 33554432) (m + 1) (pmB X1 0) = if (X1 / 33554432) / 2 ^ m % 2 = 1 then pmK (X1 / 33554432) m (pmB X1 0) ^^^ gn m else pmK (X1 / 33554432) m (pmB X1 0) := rfl
    have hin : bin .add .i64 ii 1 = ((m + 1 : Nat) : Int) := by rw [hii, add_i64 hA (by omega)]; rfl
    refine ⟨by rw [cnv_u64 hA (by omega)]; omega, ?_⟩
    conv => cbv
    by_cases hb1 : (X1 / 33554432) / 2 ^ m % 2 = 1
    case pos =>
      rw [if_pos hb1] at hpk
      refine br_t (by rw [hbit, cmp_eql hA, hb1]; rfl) ?_
      conv => cbv
      refine ld_at0 hg.1 rfl ?_
      conv => cbv
      refine ⟨by omega, by rw [ofN_ hA, hg5]; omega, hgs, ?_⟩
      conv => cbv
      refine ld_ri hA hg.2 (by omega) (by omega) ?_
      intro g9 hg9 _
      rw [show ii.toNat = m by omega, gens_at m hm5] at hg9
      conv => cbv
      have hx9 : bin .xor .i64 cc g9 = ((pmK (X1 / 33554432) (m + 1) (pmB X1 0) : Nat) : Int) := by
        have h1 := pmK_lt (X1 / 33554432) m (c := (pmB X1 0)) (by assumption)
        have h2 := gn_lt m
        rw [hcc, hg9, xor_n hA (by omega) (by omega), hpk]
      exact ⟨5 - (m + 1), ⟨bin .add .i64 ii 1, bin .xor .i64 cc g9⟩, by omega, ⟨⟨rfl, rfl, rfl, rfl, rfl, rfl, trivial⟩, rfl, trivial, rfl, .refl _⟩, m + 1, hin, hm5, rfl, hx9⟩
    rw [if_neg hb1] at hpk
    refine br_f (by rw [hbit, cmp_eql hA]; exact beq_false_of_ne (by omega)) ?_
    conv => cbv
    exact ⟨5 - (m + 1), ⟨bin .add .i64 ii 1, cc⟩, by omega, ⟨⟨rfl, rfl, rfl, rfl, rfl, rfl, trivial⟩, rfl, trivial, rfl, .refl _⟩, m + 1, hin, hm5, rfl, by rw [hpk]; exact hcc⟩
  refine br_f (by rw [cmp_lss hA]; simp; omega) ?_
  have hm6 : m = 5 := by omega
  subst hm6
  clear hm5 hm hii hkk
  conv => cbv
  obtain ⟨X2, hX2⟩ : ∃ X, X = pmR X1 0 := ⟨_, rfl⟩
  have hc2 : cc = ((X2 : Nat) : Int) := by rw [hcc, hX2]; rfl
  have hX2l : X2 < 2 ^ 30 := by rw [hX2]; exact pmR_lt (by decide)
  clear hcc hBlt hbv htv
  refine ⟨Lo, fun y => ⟨[(14, .v (.int .i64 y.i)), (7, .v (.int .i64 y.c)), (0, .v (.string x)), (1, .v (.slice a n c)), (2, .v (.slice none m2 k2))], R, [], 0, []⟩, fun k y => ∃ j : Nat, y.i = j ∧ j ≤ xs.length ∧ k = xs.length - j ∧ y.c = ((pmL ((xs.take j).map loF) X2 : Nat) : Int),
    ⟨xs.length, ⟨0, cc⟩, ⟨⟨rfl, rfl, rfl, rfl, rfl, trivial⟩, rfl, trivial, rfl, .refl _⟩, 0, rfl, Nat.zero_le _, rfl, hc2⟩, ?_⟩
  rintro k ⟨i, c1⟩ ⟨j, hi, hj, hk, hc1⟩
  simp only at hi hc1
  conv => cbv
  by_cases hlt : j < xs.length
  case pos =>
    refine br_t (by rw [oz, cmp_lss hA]; simp; omega) ?_
    conv => cbv
    obtain ⟨d, hd⟩ : ∃ d, xs[j]? = some d := ⟨_, List.getElem?_eq_getElem hlt⟩
    have hdb := hr d (List.mem_of_getElem? hd)
    have hix : (0 : Int) ≤ i ∧ i < (x.size : Int) := by rw [hsz]; omega
    have hget : sget x i = d := sb_get hA hx j hi hd
    have hi2 : bin .add .i64 i 1 = ((j + 1 : Nat) : Int) := by rw [hi, add_i64 hA (by omega)]; rfl
    have hpt := pm_take loF hd X2
    have hlim : pmL ((xs.take j).map loF) X2 < 2 ^ 30 := pmL_f lo_b hr hX2l j
    obtain ⟨X, hX⟩ : ∃ X, X = pmL ((xs.take j).map loF) X2 := ⟨_, rfl⟩
    rw [← hX] at hc1 hpt hlim
    refine ⟨by decide, ?_⟩
    conv => cbv
    refine ⟨hix, ?_⟩
    simp (maxSteps := 10000000) only [hget]
    conv => cbv
    repeat (refine ⟨by decide, ?_⟩; conv => cbv)
    obtain ⟨tv, htv⟩ : ∃ t, t = bin .shr .i64 c1 25 := ⟨_, rfl⟩
    obtain ⟨bv, hbv⟩ : ∃ b, b = bin .xor .i64 (bin .shl .i64 (bin .and .i64 c1 33554431) 5) ((bin .and .i64 (cnv .i64 d) 31)) := ⟨_, rfl⟩
    simp (maxSteps := 10000000) only [← htv, ← hbv]
    rw [topI hA hc1] at htv
    rw [stepI hA hc1 hlim (loI hA hdb) (lo_b d hdb)] at hbv
    have hBlt := pmB_lt (c := X) (v := loF d) (lo_b d hdb)
    refine ⟨Lo, fun y => ⟨[(17, .v (.int .i64 y.i)), (7, .v (.int .i64 y.c)), (15, .v (.int .i64 tv)), (14, .v (.int .i64 i)), (0, .v (.string x)), (1, .v (.slice a n c)), (2, .v (.slice none m2 k2))], R, [], 0, []⟩, fun k y => ∃ m : Nat, y.i = m ∧ m ≤ 5 ∧ k = 5 - m ∧ y.c = ((pmK (X / 33554432) m (pmB X (loF d)) : Nat) : Int),
      ⟨5, ⟨0, bv⟩, ⟨⟨rfl, rfl, rfl, rfl, rfl, rfl, rfl, trivial⟩, rfl, trivial, rfl, .refl _⟩, 0, rfl, Nat.zero_le _, rfl, hbv⟩, ?_⟩
    rintro kk ⟨ii, cc⟩ ⟨m, hii, hm, hkk, hcc⟩
    simp only at hii hcc
    conv => cbv
    by_cases hm5 : m < 5
    case pos =>
      refine br_t (by rw [cmp_lss hA]; simp; omega) ?_
      conv => cbv
      have hbit := bitI hA htv (by omega) hii hm5
      have hpk : pmK (X / 33554432) (m + 1) (pmB X (loF d)) = if (X / 33554432) / 2 ^ m % 2 = 1 then pmK (X / 33554432) m (pmB X (loF d)) ^^^ gn m else pmK (X / 33554432) m (pmB X (loF d)) := rfl
      have hin : bin .add .i64 ii 1 = ((m + 1 : Nat) : Int) := by rw [hii, add_i64 hA (by omega)]; rfl
      refine ⟨by rw [cnv_u64 hA (by omega)]; omega, ?_⟩
      conv => cbv
      by_cases hb1 : (X / 33554432) / 2 ^ m % 2 = 1
      case pos =>
        rw [if_pos hb1] at hpk
        refine br_t (by rw [hbit, cmp_eql hA, hb1]; rfl) ?_
        conv => cbv
        refine ld_at0 hg.1 rfl ?_
        conv => cbv
        refine ⟨by omega, by rw [ofN_ hA, hg5]; omega, hgs, ?_⟩
        conv => cbv
        refine ld_ri hA hg.2 (by omega) (by omega) ?_
        intro g9 hg9 _
        rw [show ii.toNat = m by omega, gens_at m hm5] at hg9
        conv => cbv
        have hx9 : bin .xor .i64 cc g9 = ((pmK (X / 33554432) (m + 1) (pmB X (loF d)) : Nat) : Int) := by
          have h1 := pmK_lt (X / 33554432) m (c := (pmB X (loF d))) (by assumption)
          have h2 := gn_lt m
          rw [hcc, hg9, xor_n hA (by omega) (by omega), hpk]
        exact ⟨5 - (m + 1), ⟨bin .add .i64 ii 1, bin .xor .i64 cc g9⟩, by omega, ⟨⟨rfl, rfl, rfl, rfl, rfl, rfl, rfl, trivial⟩, rfl, trivial, rfl, .refl _⟩, m + 1, hin, hm5, rfl, hx9⟩
      rw [if_neg hb1] at hpk
      refine br_f (by rw [hbit, cmp_eql hA]; exact beq_false_of_ne (by omega)) ?_
      conv => cbv
      exact ⟨5 - (m + 1), ⟨bin .add .i64 ii 1, cc⟩, by omega, ⟨⟨rfl, rfl, rfl, rfl, rfl, rfl, rfl, trivial⟩, rfl, trivial, rfl, .refl _⟩, m + 1, hin, hm5, rfl, by rw [hpk]; exact hcc⟩
    refine br_f (by rw [cmp_lss hA]; simp; omega) ?_
    have hm6 : m = 5 := by omega
    subst hm6
    clear hm5 hm hii hkk
    conv => cbv
    exact ⟨xs.length - (j + 1), ⟨bin .add .i64 i 1, cc⟩, by omega, ⟨⟨rfl, rfl, rfl, rfl, rfl, trivial⟩, rfl, trivial, rfl, .refl _⟩, j + 1, hi2, hlt, rfl, by show cc = _; rw [hcc, hpt]; rfl⟩
  refine br_f (by rw [oz, cmp_lss hA]; simp; omega) ?_
  have hjl : j = xs.length := by omega
  subst hjl
  rw [List.take_length] at hc1
  conv => cbv
  obtain ⟨X3, hX3⟩ : ∃ X, X = pmL (xs.map loF) X2 := ⟨_, rfl⟩
  have hX3l : X3 < 2 ^ 30 := by rw [hX3]; exact pmL_g lo_b hr hX2l
  rw [← hX3] at hc1
  refine ⟨Lo, fun y => ⟨[(120, .v (.int .i64 y.i)), (119, .v (.int .i64 (ofN n))), (118, .v (.slice a n c)), (7, .v (.int .i64 y.c)), (2, .v (.slice none m2 k2))], R, [], 0, []⟩, fun k y => ∃ j : Nat, y.i = j ∧ j ≤ vs.length ∧ k = vs.length - j ∧ y.c = ((pmL ((vs.take j).map byF) X3 : Nat) : Int),
    ⟨vs.length, ⟨0, c1⟩, ⟨⟨rfl, rfl, rfl, rfl, rfl, trivial⟩, rfl, trivial, rfl, .refl _⟩, 0, rfl, Nat.zero_le _, rfl, hc1⟩, ?_⟩
  rintro k ⟨i, c1⟩ ⟨j, hi, hj, hk, hc1⟩
  simp only at hi hc1
  conv => cbv
  by_cases hlt : j < vs.length
  case pos =>
    refine br_t (by rw [ofN_ hA, cmp_lss hA]; simp; omega) ?_
    conv => cbv
    obtain ⟨d, hd⟩ : ∃ d, vs[j]? = some d := ⟨_, List.getElem?_eq_getElem hlt⟩
    have hi2 : bin .add .i64 i 1 = ((j + 1 : Nat) : Int) := by rw [hi, add_i64 hA (by omega)]; rfl
    have hpt := pm_take byF hd X3
    have hlim : pmL ((vs.take j).map byF) X3 < 2 ^ 30 := pmL_f by_b (ri_b hv) hX3l j
    obtain ⟨X, hX⟩ : ∃ X, X = pmL ((vs.take j).map byF) X3 := ⟨_, rfl⟩
    rw [← hX] at hc1 hpt hlim
    refine ix_u8 hA hv j hi (by omega) ?_
    conv => cbv
    refine ld_u8 hA hv (by omega) (by omega) ?_
    intro d1 hd1 d0 d255
    obtain rfl : d1 = d := by rw [hd1, hi, Int.toNat_natCast, List.getD_eq_getElem?_getD, hd]; rfl
    conv => cbv
    repeat (refine ⟨by decide, ?_⟩; conv => cbv)
    obtain ⟨tv, htv⟩ : ∃ t, t = bin .shr .i64 c1 25 := ⟨_, rfl⟩
    obtain ⟨bv, hbv⟩ : ∃ b, b = bin .xor .i64 (bin .shl .i64 (bin .and .i64 c1 33554431) 5) (cnv .i64 d1) := ⟨_, rfl⟩
    simp (maxSteps := 10000000) only [← htv, ← hbv]
    rw [topI hA hc1] at htv
    rw [stepI hA hc1 hlim (byI hA ⟨d0, d255⟩) (by_b d1 ⟨d0, d255⟩)] at hbv
    have hBlt := pmB_lt (c := X) (v := byF d1) (by_b d1 ⟨d0, d255⟩)
    refine ⟨Lo, fun y => ⟨[(21, .v (.int .i64 y.i)), (7, .v (.int .i64 y.c)), (20, .v (.int .i64 tv)), (120, .v (.int .i64 i)), (119, .v (.int .i64 (ofN n))), (118, .v (.slice a n c)), (2, .v (.slice none m2 k2))], R, [], 0, []⟩, fun k y => ∃ m : Nat, y.i = m ∧ m ≤ 5 ∧ k = 5 - m ∧ y.c = ((pmK (X / 33554432) m (pmB X (byF d1)) : Nat) : Int),
      ⟨5, ⟨0, bv⟩, ⟨⟨rfl, rfl, rfl, rfl, rfl, rfl, rfl, trivial⟩, rfl, trivial, rfl, .refl _⟩, 0, rfl, Nat.zero_le _, rfl, hbv⟩, ?_⟩
    rintro kk ⟨ii, cc⟩ ⟨m, hii, hm, hkk, hcc⟩
    simp only at hii hcc
    conv => cbv
    by_cases hm5 : m < 5
    case pos =>
      refine br_t (by rw [cmp_lss hA]; simp; omega) ?_
      conv => cbv
      have hbit := bitI hA htv (by omega) hii hm5
      have hpk : pmK (X / 33554432) (m + 1) (pmB X (byF d1)) = if (X / 33554432) / 2 ^ m % 2 = 1 then pmK (X / 33554432) m (pmB X (byF d1)) ^^^ gn m else pmK (X / 33554432) m (pmB X (byF d1)) := rfl
      have hin : bin .add .i64 ii 1 = ((m + 1 : Nat) : Int) := by rw [hii, add_i64 hA (by omega)]; rfl
      refine ⟨by rw [cnv_u64 hA (by omega)]; omega, ?_⟩
      conv => cbv
      by_cases hb1 : (X / 33554432) / 2 ^ m % 2 = 1
      case pos =>
        rw [if_pos hb1] at hpk
        refine br_t (by rw [hbit, cmp_eql hA, hb1]; rfl) ?_
        conv => cbv
        refine ld_at0 hg.1 rfl ?_
        conv => cbv
        refine ⟨by omega, by rw [ofN_ hA, hg5]; omega, hgs, ?_⟩
        conv => cbv
        refine ld_ri hA hg.2 (by omega) (by omega) ?_
        intro g9 hg9 _
        rw [show ii.toNat = m by omega, gens_at m hm5] at hg9
        conv => cbv
        have hx9 : bin .xor .i64 cc g9 = ((pmK (X / 33554432) (m + 1) (pmB X (byF d1)) : Nat) : Int) := by
          have h1 := pmK_lt (X / 33554432) m (c := (pmB X (byF d1))) (by assumption)
          have h2 := gn_lt m
          rw [hcc, hg9, xor_n hA (by omega) (by omega), hpk]
        exact ⟨5 - (m + 1), ⟨bin .add .i64 ii 1, bin .xor .i64 cc g9⟩, by omega, ⟨⟨rfl, rfl, rfl, rfl, rfl, rfl, rfl, trivial⟩, rfl, trivial, rfl, .refl _⟩, m + 1, hin, hm5, rfl, hx9⟩
      rw [if_neg hb1] at hpk
      refine br_f (by rw [hbit, cmp_eql hA]; exact beq_false_of_ne (by omega)) ?_
      conv => cbv
      exact ⟨5 - (m + 1), ⟨bin .add .i64 ii 1, cc⟩, by omega, ⟨⟨rfl, rfl, rfl, rfl, rfl, rfl, rfl, trivial⟩, rfl, trivial, rfl, .refl _⟩, m + 1, hin, hm5, rfl, by rw [hpk]; exact hcc⟩
    refine br_f (by rw [cmp_lss hA]; simp; omega) ?_
    have hm6 : m = 5 := by omega
    subst hm6
    clear hm5 hm hii hkk
    conv => cbv
    exact ⟨vs.length - (j + 1), ⟨bin .add .i64 i 1, cc⟩, by omega, ⟨⟨rfl, rfl, rfl, rfl, rfl, trivial⟩, rfl, trivial, rfl, .refl _⟩, j + 1, hi2, hlt, rfl, by show cc = _; rw [hcc, hpt]; rfl⟩
  refine br_f (by rw [ofN_ hA, cmp_lss hA]; simp; omega) ?_
  have hjl : j = vs.length := by omega
  subst hjl
  rw [List.take_length] at hc1
  conv => cbv
  obtain ⟨X4, hX4⟩ : ∃ X, X = pmL (vs.map byF) X3 := ⟨_, rfl⟩
  have hX4l : X4 < 2 ^ 30 := by rw [hX4]; exact pmL_g by_b (ri_b hv) hX3l
  rw [← hX4] at hc1
  refine ⟨Lo, fun y => ⟨[(22, .v (.int .i64 y.i)), (7, .v (.int .i64 y.c))], R, [], 0, []⟩, fun k y => ∃ j q : Nat, y.i = j ∧ j ≤ 6 ∧ k = 6 - j ∧ y.c = (q : Int) ∧ q < 2 ^ 30,
    ⟨6, ⟨0, c1⟩, ⟨⟨rfl, rfl, trivial⟩, rfl, trivial, rfl, .refl _⟩, 0, X4, rfl, Nat.zero_le _, rfl, hc1, hX4l⟩, ?_⟩
  rintro k ⟨i, c2⟩ ⟨j, q, hi, hj, hk, hc2, hq⟩
  simp only at hi hc2
  conv => cbv
  by_cases hlt : j < 6
  case neg =>
    refine br_f (by rw [cmp_lss hA]; simp; omega) ?_
    conv => cbv
    intro ρ R'' _ _ _
    exact ⟨_, q, rfl, hc2, hq⟩
  refine br_t (by rw [cmp_lss hA]; simp; omega) ?_
  conv => cbv
  have hi2 : bin .add .i64 i 1 = ((j + 1 : Nat) : Int) := by rw [hi, add_i64 hA (by omega)]; rfl
  repeat (refine ⟨by decide, ?_⟩; conv => cbv)
  obtain ⟨tv, htv⟩ : ∃ t, t = bin .shr .i64 c2 25 := ⟨_, rfl⟩
  obtain ⟨bv, hbv⟩ : ∃ b, b = bin .shl .i64 (bin .and .i64 c2 33554431) 5 := ⟨_, rfl⟩
  simp (maxSteps := 10000000) only [← htv, ← hbv]
  rw [topI hA hc2] at htv
  rw [sepI hA hc2 hq] at hbv
  have hBlt := pmB_lt (c := q) (v := 0) (by decide)
  refine ⟨Lo, fun y => ⟨[(24, .v (.int .i64 y.i)), (7, .v (.int .i64 y.c)), (23, .v (.int .i64 tv)), (22, .v (.int .i64 i))], R, [], 0, []⟩, fun k y => ∃ m : Nat, y.i = m ∧ m ≤ 5 ∧ k = 5 - m ∧ y.c = ((pmK (q / 33554432) m (pmB q 0) : Nat) : Int),
    ⟨5, ⟨0, bv⟩, ⟨⟨rfl, rfl, rfl, rfl, trivial⟩, rfl, trivial, rfl, .refl _⟩, 0, rfl, Nat.zero_le _, rfl, hbv⟩, ?_⟩
  rintro kk ⟨ii, cc⟩ ⟨m, hii, hm, hkk, hcc⟩
  simp only at hii hcc
  conv => cbv
  by_cases hm5 : m < 5
  case pos =>
    refine br_t (by rw [cmp_lss hA]; simp; omega) ?_
    conv => cbv
    have hbit := bitI hA htv (by omega) hii hm5
    have hpk : pmK (q / 33554432) (m + 1) (pmB q 0) = if (q / 33554432) / 2 ^ m % 2 = 1 then pmK (q / 33554432) m (pmB q 0) ^^^ gn m else pmK (q / 33554432) m (pmB q 0) := rfl
    have hin : bin .add .i64 ii 1 = ((m + 1 : Nat) : Int) := by rw [hii, add_i64 hA (by omega)]; rfl
    refine ⟨by rw [cnv_u64 hA (by omega)]; omega, ?_⟩
    conv => cbv
    by_cases hb1 : (q / 33554432) / 2 ^ m % 2 = 1
    case pos =>
      rw [if_pos hb1] at hpk
      refine br_t (by rw [hbit, cmp_eql hA, hb1]; rfl) ?_
      conv => cbv
      refine ld_at0 hg.1 rfl ?_
      conv => cbv
      refine ⟨by omega, by rw [ofN_ hA, hg5]; omega, hgs, ?_⟩
      conv => cbv
      refine ld_ri hA hg.2 (by omega) (by omega) ?_
      intro g9 hg9 _
      rw [show ii.toNat = m by omega, gens_at m hm5] at hg9
      conv => cbv
      have hx9 : bin .xor .i64 cc g9 = ((pmK (q / 33554432) (m + 1) (pmB q 0) : Nat) : Int) := by
        have h1 := pmK_lt (q / 33554432) m (c := (pmB q 0)) (by assumption)
        have h2 := gn_lt m
        rw [hcc, hg9, xor_n hA (by omega) (by omega), hpk]
      exact ⟨5 - (m + 1), ⟨bin .add .i64 ii 1, bin .xor .i64 cc g9⟩, by omega, ⟨⟨rfl, rfl, rfl, rfl, trivial⟩, rfl, trivial, rfl, .refl _⟩, m + 1, hin, hm5, rfl, hx9⟩
    rw [if_neg hb1] at hpk
    refine br_f (by rw [hbit, cmp_eql hA]; exact beq_false_of_ne (by omega)) ?_
    conv => cbv
    exact ⟨5 - (m + 1), ⟨bin .add .i64 ii 1, cc⟩, by omega, ⟨⟨rfl, rfl, rfl, rfl, trivial⟩, rfl, trivial, rfl, .refl _⟩, m + 1, hin, hm5, rfl, by rw [hpk]; exact hcc⟩
  refine br_f (by rw [cmp_lss hA]; simp; omega) ?_
  have hm6 : m = 5 := by omega
  subst hm6
  clear hm5 hm hii hkk
  conv => cbv
  exact ⟨6 - (j + 1), ⟨bin .add .i64 i 1, cc⟩, by omega, ⟨⟨rfl, rfl, trivial⟩, rfl, trivial, rfl, .refl _⟩, j + 1, pmR q 0, hi2, hlt, rfl, by show cc = _; rw [hcc]; rfl, pmR_lt (by decide)⟩
end Go.Proofs.YtfkdaelfehibcaaDoor.Be
