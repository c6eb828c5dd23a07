/- SHA-256: blocks. -/
/- SHA-256, plain: blocks one behind the other, what a digest holds. -/
/- A part of an array behind a pointer. -/
/- Rows may stand in any order. -/
import Derived.Test.YtepfbdfbfimefaaDoorMTysb
import Derived.Test.YtepfbdfbfimefaaDoorSu
section
set_option linter.unusedSimpArgs false
set_option linter.unusedVariables false
namespace Go.Proofs.YtepfbdfbfimefaaDoor.Sha
open Go Go.Se Go.Proofs Go.Proofs.YtepfbdfbfimefaaDoor.Tysb

theorem mix {P : Program} (hP : P = Tryd.prog) : P.follows .mixedOrders = true := by subst hP; rfl

theorem ld_k {R : RO} {rs : List Row} {ad : Addr} {v : Value} {K : Value → Prop} (h : KCell R rs ad v) (hk : K v) : LoadP R rs ad false 1 K := ⟨v, h, hk⟩

theorem elem_at {elem : Option Addr → Int → Nat → Addr} (hE : elem = Ar.real.elem) (a : Addr) (i : Int) (j : Nat) (hi : i = j) : elem (some a) i 1 = a.add j := by
  rw [hE, hi]
  show a.add ((j : Int).toNat * 1) = _
  rw [Nat.mul_one, Int.toNat_natCast]

theorem add_add' (a : Addr) (i j : Nat) : (a.add i).add j = a.add (i + j) := by
  by_cases hi : i = 0
  · subst hi
    simp [Addr.add]
  · by_cases hj : j = 0
    · subst hj
      simp [Addr.add]
    · simp [Addr.add, hi, hj, Nat.add_assoc]

theorem ints_set' (k : IntKind) (ys : List Int) (i : Nat) (e : Int) (h : i < ys.length) : (ints k ys).take i ++ [Value.int k e] ++ (ints k ys).drop (i + 1) = ints k (ys.set i e) := by
  rw [List.set_eq_take_append_cons_drop, if_pos h]
  simp [ints, List.map_take, List.map_drop]

structure Lo8 where
  a : Int
  b : Int
  c : Int
  d : Int
  e : Int
  f : Int
  g : Int
  h : Int
  p : Option Addr
  n : Nat
  k : Nat
  zs : List Value

structure Li8 where
  i : Int
  a : Int
  b : Int
  c : Int
  d : Int
  e : Int
  f : Int
  g : Int
  h : Int
  zs : List Value



set_option maxRecDepth 100000 in
set_option maxHeartbeats 8000000 in
/-- The blocks of a stretch, into the digest. -/
theorem blockC {P : Program} (hP : P = Tryd.prog) (R : RO) (K : List Int) (hK : RI R .u32 (some ⟨3, 0, none⟩) 64 K) (rs : List Row) (D : Addr) (zs tl : List Value) (s0 : S8)
    (a0 b0 c0 d0 e0 f0 g0 h0 : Int) (hs0 : s0 = ⟨a0, b0, c0, d0, e0, f0, g0, h0⟩) (hzs : zs = .int .u32 a0 :: .int .u32 b0 :: .int .u32 c0 :: .int .u32 d0 :: .int .u32 e0 :: .int .u32 f0 :: .int .u32 g0 :: .int .u32 h0 :: tl)
    (pa : Addr) (N Cp q : Nat) (hNC : N ≤ Cp) (hq : N = 64 * q) (hN : N ≤ 100000) (ps : List Int) (hp : ∀ (w : Row) (j : Nat), j < N → KCell R (w :: ⟨some D, 75, 75, 92, 1, zs⟩ :: rs) (pa.add j) (.int .u8 (ps.getD j 0)))
    {K' : RO → List (Nat × HB) → Nat → List Row → SV → Prop}
    (hg : ∀ (w : Row) (zs' : List Value) (a1 b1 c1 d1 e1 f1 g1 h1 : Int), (blks K q ps (s0, List.replicate 64 0)).1 = ⟨a1, b1, c1, d1, e1, f1, g1, h1⟩ → zs' = .int .u32 a1 :: .int .u32 b1 :: .int .u32 c1 :: .int .u32 d1 :: .int .u32 e1 :: .int .u32 f1 :: .int .u32 g1 :: .int .u32 h1 :: tl →
      K' R [] 0 (w :: ⟨some D, 75, 75, 92, 1, zs'⟩ :: rs) (.tu [])) :
    CallP P 58 [.v (.pointer (some D)), .v (.slice (some pa) N Cp)] R [] 0 (⟨some D, 75, 75, 92, 1, zs⟩ :: rs) K' := by
  subst hP
  refine callP_of_vc (fz := [504]) Tryd.func58 rfl (by decide) (Nat.le_of_ble_eq_true rfl) ok58 (by simp [labL, lab]) ?_
  rintro P ⟨bin, cmp, cnv, neg, com, bnot, beq, ofN, toN, at_, sub_, scmp, cat, sget, ssz, ssub, elem, fld_⟩ hP hA
  conv => cbv
  refine ⟨_, rfl, by decide, ?_⟩
  intro Wa nw zw hnw hzw
  conv => cbv
  refine ⟨[0, 1, 2, 3, 4, 5, 6, 7, 8, 9, 10, 11, 12, 13, 14, 15, 16, 17, 18, 19, 20, 21, 22, 23, 24, 25, 26, 27, 28, 29, 30, 31, 32, 33, 34, 35, 36, 37, 38, 39, 40, 41, 42, 43, 44, 45, 46, 47], [], mix hP, by decide +kernel, ?_⟩
  conv => cbv
  refine ⟨by decide, by rw [ofN_ hA]; decide, rfl, ?_⟩
  refine ld_k (v := .int .u32 a0) (.inr ⟨⟨some D, 75, 75, 92, 1, zs⟩, List.mem_cons_of_mem _ (List.mem_cons_self ..), D, 0, rfl, ?_, ?_⟩) ?_
  · rw [elem_is hA, fld__is hA]
    show (D.add 0).add 0 = D.add 0
    rw [add_add', Nat.zero_add]
  · show zs[0]? = _
    rw [hzs]
    rfl
  conv => cbv
  refine ⟨by decide, by rw [ofN_ hA]; decide, rfl, ?_⟩
  refine ld_k (v := .int .u32 b0) (.inr ⟨⟨some D, 75, 75, 92, 1, zs⟩, List.mem_cons_of_mem _ (List.mem_cons_self ..), D, 1, rfl, ?_, ?_⟩) ?_
  · rw [elem_is hA, fld__is hA]
    show (D.add 0).add 1 = D.add 1
    rw [add_add', Nat.zero_add]
  · show zs[1]? = _
    rw [hzs]
    rfl
  conv => cbv
  refine ⟨by decide, by rw [ofN_ hA]; decide, rfl, ?_⟩
  refine ld_k (v := .int .u32 c0) (.inr ⟨⟨some D, 75, 75, 92, 1, zs⟩, List.mem_cons_of_mem _ (List.mem_cons_self ..), D, 2, rfl, ?_, ?_⟩) ?_
  · rw [elem_is hA, fld__is hA]
    show (D.add 0).add 2 = D.add 2
    rw [add_add', Nat.zero_add]
  · show zs[2]? = _
    rw [hzs]
    rfl
  conv => cbv
  refine ⟨by decide, by rw [ofN_ hA]; decide, rfl, ?_⟩
  refine ld_k (v := .int .u32 d0) (.inr ⟨⟨some D, 75, 75, 92, 1, zs⟩, List.mem_cons_of_mem _ (List.mem_cons_self ..), D, 3, rfl, ?_, ?_⟩) ?_
  · rw [elem_is hA, fld__is hA]
    show (D.add 0).add 3 = D.add 3
    rw [add_add', Nat.zero_add]
  · show zs[3]? = _
    rw [hzs]
    rfl
  conv => cbv
  refine ⟨by decide, by rw [ofN_ hA]; decide, rfl, ?_⟩
  refine ld_k (v := .int .u32 e0) (.inr ⟨⟨some D, 75, 75, 92, 1, zs⟩, List.mem_cons_of_mem _ (List.mem_cons_self ..), D, 4, rfl, ?_, ?_⟩) ?_
  · rw [elem_is hA, fld__is hA]
    show (D.add 0).add 4 = D.add 4
    rw [add_add', Nat.zero_add]
  · show zs[4]? = _
    rw [hzs]
    rfl
  conv => cbv
  refine ⟨by decide, by rw [ofN_ hA]; decide, rfl, ?_⟩
  refine ld_k (v := .int .u32 f0) (.inr ⟨⟨some D, 75, 75, 92, 1, zs⟩, List.mem_cons_of_mem _ (List.mem_cons_self ..), D, 5, rfl, ?_, ?_⟩) ?_
  · rw [elem_is hA, fld__is hA]
    show (D.add 0).add 5 = D.add 5
    rw [add_add', Nat.zero_add]
  · show zs[5]? = _
    rw [hzs]
    rfl
  conv => cbv
  refine ⟨by decide, by rw [ofN_ hA]; decide, rfl, ?_⟩
  refine ld_k (v := .int .u32 g0) (.inr ⟨⟨some D, 75, 75, 92, 1, zs⟩, List.mem_cons_of_mem _ (List.mem_cons_self ..), D, 6, rfl, ?_, ?_⟩) ?_
  · rw [elem_is hA, fld__is hA]
    show (D.add 0).add 6 = D.add 6
    rw [add_add', Nat.zero_add]
  · show zs[6]? = _
    rw [hzs]
    rfl
  conv => cbv
  refine ⟨by decide, by rw [ofN_ hA]; decide, rfl, ?_⟩
  refine ld_k (v := .int .u32 h0) (.inr ⟨⟨some D, 75, 75, 92, 1, zs⟩, List.mem_cons_of_mem _ (List.mem_cons_self ..), D, 7, rfl, ?_, ?_⟩) ?_
  · rw [elem_is hA, fld__is hA]
    show (D.add 0).add 7 = D.add 7
    rw [add_add', Nat.zero_add]
  · show zs[7]? = _
    rw [hzs]
    rfl
  conv => cbv
  have hzw0 : zw = ints .u32 (List.replicate 64 0) := hzw
  obtain ⟨FIN, hFIN⟩ : ∃ FIN, FIN = (blks K q ps (s0, List.replicate 64 0)).1 := ⟨_, rfl⟩
  refine ⟨Lo8, fun x => ⟨[(5, .v (.int .u32 x.a)), (6, .v (.int .u32 x.b)), (7, .v (.int .u32 x.c)), (8, .v (.int .u32 x.d)), (9, .v (.int .u32 x.e)), (10, .v (.int .u32 x.f)), (11, .v (.int .u32 x.g)), (12, .v (.int .u32 x.h)), (1, .v (.slice x.p x.n x.k)), (0, .v (.pointer (some D))), (4, .v (.pointer (some Wa)))], R, [], 0, ⟨some Wa, nw, nw, 117, 1, x.zs⟩ :: ⟨some D, 75, 75, 92, 1, zs⟩ :: rs⟩,
    fun mm x => ∃ (k : Nat) (ws : List Int), k ≤ q ∧ mm = q - k ∧ x.n = N - 64 * k ∧ x.n ≤ x.k ∧ (x.n ≠ 0 → x.p = some (pa.add (64 * k))) ∧ x.zs = ints .u32 ws ∧ ws.length = 64 ∧ (blks K (q - k) (ps.drop (64 * k)) (⟨x.a, x.b, x.c, x.d, x.e, x.f, x.g, x.h⟩, ws)).1 = FIN,
    ⟨q, ⟨a0, b0, c0, d0, e0, f0, g0, h0, some pa, N, Cp, zw⟩, ⟨⟨rfl, rfl, rfl, rfl, rfl, rfl, rfl, rfl, rfl, rfl, rfl, trivial⟩, rfl, trivial, rfl, .refl _⟩, 0, List.replicate 64 0, Nat.zero_le _, rfl, rfl, hNC, fun _ => by simp [Addr.add], hzw0, by simp, by rw [hFIN, hs0]; rfl⟩, ?_⟩
  rintro mm ⟨a, b, c, d, e, f, g, h, pp, n, cp, zq⟩ ⟨k, ws, hk, hmm, hn, hncp, hpp, hzq, hwl, hfin⟩
  simp only at hn hncp hpp hzq hfin
  have on := ofN_ hA n
  conv => cbv
  by_cases hkq : k < q
  case neg =>
    refine br_f (by rw [on, cmp_geq hA]; simp; omega) ?_
    conv => cbv
    have hkq' : k = q := by omega
    rw [hkq', Nat.sub_self] at hfin
    have hfin : (⟨a, b, c, d, e, f, g, h⟩ : S8) = FIN := hfin
    refine ⟨[0, 1, 2, 3, 4, 5, 6, 7, 8, 9, 10, 11, 12, 13, 14, 15, 16, 17, 18, 20, 21, 24, 25, 28, 29, 32, 33, 36, 37, 40, 41, 44, 45, 19, 22, 23, 26, 27, 30, 31, 34, 35, 38, 39, 42, 43, 46, 47], [19, 23, 27, 31, 35, 39, 43, 47, 22, 26, 30, 34, 38, 42, 46], mix hP, by decide +kernel, ?_⟩
    conv => cbv
    refine ⟨by decide, by rw [ofN_ hA]; decide, rfl, ?_⟩
    refine ⟨1, _, D, 0, rfl, rfl, by rw [elem_is hA, fld__is hA]; show (D.add 0).add 0 = D.add 0; rw [add_add', Nat.zero_add], by show 0 + 1 ≤ _; rw [hzs]; simp [List.length_cons], ?_⟩
    intro z0 hz0
    have hz0' : z0 = .int .u32 a :: .int .u32 b0 :: .int .u32 c0 :: .int .u32 d0 :: .int .u32 e0 :: .int .u32 f0 :: .int .u32 g0 :: .int .u32 h0 :: tl := by rw [hz0, hzs]; rfl
    conv => cbv
    refine ⟨by decide, by rw [ofN_ hA]; decide, rfl, ?_⟩
    refine ⟨1, _, D, 1, rfl, rfl, by rw [elem_is hA, fld__is hA]; show (D.add 0).add 1 = D.add 1; rw [add_add', Nat.zero_add], by show 1 + 1 ≤ _; rw [hz0']; simp [List.length_cons], ?_⟩
    intro z1 hz1
    have hz1' : z1 = .int .u32 a :: .int .u32 b :: .int .u32 c0 :: .int .u32 d0 :: .int .u32 e0 :: .int .u32 f0 :: .int .u32 g0 :: .int .u32 h0 :: tl := by rw [hz1, hz0']; rfl
    conv => cbv
    refine ⟨by decide, by rw [ofN_ hA]; decide, rfl, ?_⟩
    refine ⟨1, _, D, 2, rfl, rfl, by rw [elem_is hA, fld__is hA]; show (D.add 0).add 2 = D.add 2; rw [add_add', Nat.zero_add], by show 2 + 1 ≤ _; rw [hz1']; simp [List.length_cons], ?_⟩
    intro z2 hz2
    have hz2' : z2 = .int .u32 a :: .int .u32 b :: .int .u32 c :: .int .u32 d0 :: .int .u32 e0 :: .int .u32 f0 :: .int .u32 g0 :: .int .u32 h0 :: tl := by rw [hz2, hz1']; rfl
    conv => cbv
    refine ⟨by decide, by rw [ofN_ hA]; decide, rfl, ?_⟩
    refine ⟨1, _, D, 3, rfl, rfl, by rw [elem_is hA, fld__is hA]; show (D.add 0).add 3 = D.add 3; rw [add_add', Nat.zero_add], by show 3 + 1 ≤ _; rw [hz2']; simp [List.length_cons], ?_⟩
    intro z3 hz3
    have hz3' : z3 = .int .u32 a :: .int .u32 b :: .int .u32 c :: .int .u32 d :: .int .u32 e0 :: .int .u32 f0 :: .int .u32 g0 :: .int .u32 h0 :: tl := by rw [hz3, hz2']; rfl
    conv => cbv
    refine ⟨by decide, by rw [ofN_ hA]; decide, rfl, ?_⟩
    refine ⟨1, _, D, 4, rfl, rfl, by rw [elem_is hA, fld__is hA]; show (D.add 0).add 4 = D.add 4; rw [add_add', Nat.zero_add], by show 4 + 1 ≤ _; rw [hz3']; simp [List.length_cons], ?_⟩
    intro z4 hz4
    have hz4' : z4 = .int .u32 a :: .int .u32 b :: .int .u32 c :: .int .u32 d :: .int .u32 e :: .int .u32 f0 :: .int .u32 g0 :: .int .u32 h0 :: tl := by rw [hz4, hz3']; rfl
    conv => cbv
    refine ⟨by decide, by rw [ofN_ hA]; decide, rfl, ?_⟩
    refine ⟨1, _, D, 5, rfl, rfl, by rw [elem_is hA, fld__is hA]; show (D.add 0).add 5 = D.add 5; rw [add_add', Nat.zero_add], by show 5 + 1 ≤ _; rw [hz4']; simp [List.length_cons], ?_⟩
    intro z5 hz5
    have hz5' : z5 = .int .u32 a :: .int .u32 b :: .int .u32 c :: .int .u32 d :: .int .u32 e :: .int .u32 f :: .int .u32 g0 :: .int .u32 h0 :: tl := by rw [hz5, hz4']; rfl
    conv => cbv
    refine ⟨by decide, by rw [ofN_ hA]; decide, rfl, ?_⟩
    refine ⟨1, _, D, 6, rfl, rfl, by rw [elem_is hA, fld__is hA]; show (D.add 0).add 6 = D.add 6; rw [add_add', Nat.zero_add], by show 6 + 1 ≤ _; rw [hz5']; simp [List.length_cons], ?_⟩
    intro z6 hz6
    have hz6' : z6 = .int .u32 a :: .int .u32 b :: .int .u32 c :: .int .u32 d :: .int .u32 e :: .int .u32 f :: .int .u32 g :: .int .u32 h0 :: tl := by rw [hz6, hz5']; rfl
    conv => cbv
    refine ⟨by decide, by rw [ofN_ hA]; decide, rfl, ?_⟩
    refine ⟨1, _, D, 7, rfl, rfl, by rw [elem_is hA, fld__is hA]; show (D.add 0).add 7 = D.add 7; rw [add_add', Nat.zero_add], by show 7 + 1 ≤ _; rw [hz6']; simp [List.length_cons], ?_⟩
    intro z7 hz7
    have hz7' : z7 = .int .u32 a :: .int .u32 b :: .int .u32 c :: .int .u32 d :: .int .u32 e :: .int .u32 f :: .int .u32 g :: .int .u32 h :: tl := by rw [hz7, hz6']; rfl
    conv => cbv
    refine hg ⟨some Wa, nw, nw, 117, 1, zq⟩ z7 a b c d e f g h ?_ hz7'
    rw [← hFIN]
    exact hfin.symm
  refine br_t (by rw [on, cmp_geq hA]; simp; omega) ?_
  obtain ⟨pq, hpq⟩ : ∃ pq, pq = pa.add (64 * k) := ⟨_, rfl⟩
  obtain rfl : pp = some pq := by rw [hpp (by omega), hpq]
  conv => cbv
  obtain ⟨ps2, hps2⟩ : ∃ ps2, ps2 = ps.drop (64 * k) := ⟨_, rfl⟩
  refine ⟨Li8, fun x => ⟨[(80, .v (.int .i64 x.i)), (13, .v (.int .u32 x.a)), (14, .v (.int .u32 x.b)), (15, .v (.int .u32 x.c)), (16, .v (.int .u32 x.d)), (17, .v (.int .u32 x.e)), (18, .v (.int .u32 x.f)), (19, .v (.int .u32 x.g)), (20, .v (.int .u32 x.h)), (5, .v (.int .u32 a)), (6, .v (.int .u32 b)), (7, .v (.int .u32 c)), (8, .v (.int .u32 d)), (9, .v (.int .u32 e)), (10, .v (.int .u32 f)), (11, .v (.int .u32 g)), (12, .v (.int .u32 h)), (1, .v (.slice (some pq) n cp)), (0, .v (.pointer (some D))), (4, .v (.pointer (some Wa)))], R, [], 0, ⟨some Wa, nw, nw, 117, 1, x.zs⟩ :: ⟨some D, 75, 75, 92, 1, zs⟩ :: rs⟩,
    fun mm x => ∃ (i : Nat) (ws2 : List Int), x.i = i ∧ i ≤ 64 ∧ mm = 64 - i ∧ x.zs = ints .u32 ws2 ∧ ws2.length = 64 ∧ rounds K ps2 i (⟨a, b, c, d, e, f, g, h⟩, ws) = (⟨x.a, x.b, x.c, x.d, x.e, x.f, x.g, x.h⟩, ws2),
    ⟨64, ⟨0, a, b, c, d, e, f, g, h, zq⟩, ⟨⟨rfl, rfl, rfl, rfl, rfl, rfl, rfl, rfl, rfl, rfl, rfl, rfl, rfl, rfl, rfl, rfl, rfl, rfl, rfl, rfl, trivial⟩, rfl, trivial, rfl, .refl _⟩, 0, ws, rfl, by decide, rfl, hzq, hwl, rfl⟩, ?_⟩
  rintro mm2 ⟨ii, A, B, C, E, F, G, H, J, zr⟩ ⟨i, ws2, hi, hi64, hmm2, hzr, hwl2, hrd⟩
  simp only at hi hzr hrd
  conv => cbv
  by_cases hlt : i < 64
  case neg =>
    refine br_f (by rw [cmp_lss hA]; simp; omega) ?_
    obtain rfl : i = 64 := by omega
    conv => cbv
    refine ⟨64, n, rfl, rfl, by omega, hncp, ?_⟩
    intro a' n' c' hn' hc' ha'
    conv => cbv
    refine ⟨q - (k + 1), ⟨bin .add .u32 a A, bin .add .u32 b B, bin .add .u32 c C, bin .add .u32 d E, bin .add .u32 e F, bin .add .u32 f G, bin .add .u32 g H, bin .add .u32 h J, a', n', c', zr⟩, by omega, ⟨⟨rfl, rfl, rfl, rfl, rfl, rfl, rfl, rfl, rfl, rfl, rfl, trivial⟩, rfl, trivial, rfl, .refl _⟩, k + 1, ws2, by omega, rfl, by show n' = _; omega, by show n' ≤ c'; omega, ?_, hzr, hwl2, ?_⟩
    · intro hne
      have hne : n' ≠ 0 := hne
      show a' = _
      rw [ha', if_neg (by omega), Option.map_some, hpq, add_add', Nat.mul_one]
      rfl
    · rw [show q - k = (q - (k + 1)) + 1 by omega, blks, blk1, ← hps2, hrd, hps2, List.drop_drop] at hfin
      rw [← hfin, bin_is hA]
      rfl
  refine br_t (by rw [cmp_lss hA]; simp; omega) ?_
  conv => cbv
  by_cases h16 : i < 16
  · refine br_t (by rw [cmp_lss hA]; simp; omega) ?_
    conv => cbv
    refine ⟨[0, 1, 2, 3, 4, 5, 6, 7, 8, 9, 10, 11, 12, 13, 14, 15, 16, 17, 18, 19, 20, 21, 22, 23, 24, 25, 26, 27, 28, 29, 30, 31], [31], mix hP, by decide +kernel, ?_⟩
    conv => cbv
    have em : bin .mul .i64 ii 4 = ((i * 4 : Nat) : Int) := by rw [hi, mul_i64 hA (by omega)]; omega
    have em1 : bin .add .i64 (bin .mul .i64 ii 4) 1 = ((i * 4 + 1 : Nat) : Int) := by rw [em, add_i64 hA (by omega)]; omega
    have em2 : bin .add .i64 (bin .mul .i64 ii 4) 2 = ((i * 4 + 2 : Nat) : Int) := by rw [em, add_i64 hA (by omega)]; omega
    have em3 : bin .add .i64 (bin .mul .i64 ii 4) 3 = ((i * 4 + 3 : Nat) : Int) := by rw [em, add_i64 hA (by omega)]; omega
    have pk : ∀ t : Nat, t < 64 → KCell R (⟨some Wa, nw, nw, 117, 1, zr⟩ :: ⟨some D, 75, 75, 92, 1, zs⟩ :: rs) (pq.add t) (.int .u8 (ps2.getD t 0)) := fun t ht => by
      have h1 := hp ⟨some Wa, nw, nw, 117, 1, zr⟩ (64 * k + t) (by omega)
      rw [hpq, add_add', hps2, List.getD_eq_getElem?_getD, List.getElem?_drop, ← List.getD_eq_getElem?_getD]
      exact h1
    obtain ⟨p0, hp0⟩ : ∃ p0, p0 = ps2.getD (i * 4) 0 := ⟨_, rfl⟩
    obtain ⟨p1, hp1⟩ : ∃ p1, p1 = ps2.getD (i * 4 + 1) 0 := ⟨_, rfl⟩
    obtain ⟨p2, hp2⟩ : ∃ p2, p2 = ps2.getD (i * 4 + 2) 0 := ⟨_, rfl⟩
    obtain ⟨p3, hp3⟩ : ∃ p3, p3 = ps2.getD (i * 4 + 3) 0 := ⟨_, rfl⟩
    refine ⟨by rw [em]; omega, by rw [em, on]; omega, rfl, ?_⟩
    refine ld_k (v := .int .u8 p0) (by rw [elem_at (elem_is hA) _ _ _ em, hp0]; exact pk _ (by omega)) ?_
    conv => cbv
    refine ⟨by decide, ?_⟩
    refine ⟨by rw [em1]; omega, by rw [em1, on]; omega, rfl, ?_⟩
    refine ld_k (v := .int .u8 p1) (by rw [elem_at (elem_is hA) _ _ _ em1, hp1]; exact pk _ (by omega)) ?_
    conv => cbv
    refine ⟨by decide, ?_⟩
    refine ⟨by rw [em2]; omega, by rw [em2, on]; omega, rfl, ?_⟩
    refine ld_k (v := .int .u8 p2) (by rw [elem_at (elem_is hA) _ _ _ em2, hp2]; exact pk _ (by omega)) ?_
    conv => cbv
    refine ⟨by decide, ?_⟩
    refine ⟨by rw [em3]; omega, by rw [em3, on]; omega, rfl, ?_⟩
    refine ld_k (v := .int .u8 p3) (by rw [elem_at (elem_is hA) _ _ _ em3, hp3]; exact pk _ (by omega)) ?_
    conv => cbv
    obtain ⟨wv, hwv⟩ : ∃ wv, wv = bin .or .u32 (bin .or .u32 (bin .or .u32 (bin .shl .u32 (cnv .u32 p0) 24) (bin .shl .u32 (cnv .u32 p1) 16)) (bin .shl .u32 (cnv .u32 p2) 8)) (cnv .u32 p3) := ⟨_, rfl⟩
    simp (maxSteps := 10000000) only [← hwv]
    have hwi : wv = wi ps2 ws2 i := by
      rw [hwv, wi, if_pos h16, wrd, ← hp0, ← hp1, ← hp2, ← hp3, by4, bin_is hA, cnv_is hA]
    refine ⟨by omega, by rw [ofN_ hA]; omega, rfl, ?_⟩
    refine ⟨0, _, Wa, i, rfl, rfl, by rw [elem_at (elem_is hA) _ _ _ hi], by show i + 1 ≤ zr.length; rw [hzr, ints_len, hwl2]; omega, ?_⟩
    intro zr2 hzr2
    have hzr2' : zr2 = ints .u32 (ws2.set i wv) := by
      rw [hzr2, hzr, ← ints_set' _ _ _ _ (by omega)]
      rfl
    conv => cbv
    refine ⟨[0, 1, 3, 6, 10, 11, 12, 13, 14, 15, 16, 17, 19, 20, 21, 23, 24, 25, 2, 4, 5, 7, 8, 9, 18, 22, 26, 27], [], mix hP, by decide +kernel, ?_⟩
    conv => cbv
    refine ⟨by omega, by rw [ofN_ hA]; omega, rfl, ?_⟩
    refine ld_ri hA hK (by omega) (by omega) ?_
    intro kv hkv _
    have hkv2 : kv = K.getD i 0 := by rw [hkv, hi, Int.toNat_natCast]
    conv => cbv
    refine ⟨by omega, by rw [ofN_ hA]; omega, rfl, ?_⟩
    refine ld_row hA 0 (r := ⟨some Wa, nw, nw, 117, 1, zr2⟩) rfl rfl rfl (v := .int .u32 wv) (by show zr2[_]? = _; rw [hi, hzr2', ints, List.getElem?_map, Int.toNat_natCast, List.getElem?_set, if_pos rfl, if_pos (by omega)]; rfl) ?_
    conv => cbv
    refine (rotP hP R F (-6) (by simp)).callQ rfl ?_
    rintro _ ⟨r1, rfl, hr1⟩
    conv => cbv
    refine ⟨⟨trivial, .refl _⟩, ?_⟩
    conv => cbv
    refine (rotP hP R F (-11) (by simp)).callQ rfl ?_
    rintro _ ⟨r2, rfl, hr2⟩
    conv => cbv
    refine ⟨⟨trivial, .refl _⟩, ?_⟩
    conv => cbv
    refine (rotP hP R F (-25) (by simp)).callQ rfl ?_
    rintro _ ⟨r3, rfl, hr3⟩
    conv => cbv
    refine ⟨⟨trivial, .refl _⟩, ?_⟩
    conv => cbv
    refine (rotP hP R A (-2) (by simp)).callQ rfl ?_
    rintro _ ⟨r4, rfl, hr4⟩
    conv => cbv
    refine (rotP hP R A (-13) (by simp)).callQ rfl ?_
    rintro _ ⟨r5, rfl, hr5⟩
    conv => cbv
    refine (rotP hP R A (-22) (by simp)).callQ rfl ?_
    rintro _ ⟨r6, rfl, hr6⟩
    conv => cbv
    refine ⟨64 - (i + 1), ⟨bin .add .i64 ii 1, _, A, B, C, _, F, G, H, zr2⟩, by omega, ⟨⟨rfl, rfl, rfl, rfl, rfl, rfl, rfl, rfl, rfl, rfl, rfl, rfl, rfl, rfl, rfl, rfl, rfl, rfl, rfl, rfl, trivial⟩, rfl, trivial, rfl, .refl _⟩, i + 1, ws2.set i wv, by show bin .add .i64 ii 1 = _; rw [hi, add_i64 hA (by omega)]; rfl, by omega, rfl, hzr2', by simp [hwl2], ?_⟩
    rw [rounds, hrd, ← hwi, ← hkv2, hr1, hr2, hr3, hr4, hr5, hr6, bin_is hA, com_is hA]
    rfl
  refine br_f (by rw [cmp_lss hA]; simp; omega) ?_
  conv => cbv
  have e2 : bin .sub .i64 ii 2 = ((i - 2 : Nat) : Int) := by rw [hi, sub_i64 hA (by omega)]; omega
  obtain ⟨u2, g2⟩ : ∃ u, ws2[i - 2]? = some u := ⟨_, List.getElem?_eq_getElem (by omega)⟩
  have e15 : bin .sub .i64 ii 15 = ((i - 15 : Nat) : Int) := by rw [hi, sub_i64 hA (by omega)]; omega
  obtain ⟨u15, g15⟩ : ∃ u, ws2[i - 15]? = some u := ⟨_, List.getElem?_eq_getElem (by omega)⟩
  have e7 : bin .sub .i64 ii 7 = ((i - 7 : Nat) : Int) := by rw [hi, sub_i64 hA (by omega)]; omega
  obtain ⟨u7, g7⟩ : ∃ u, ws2[i - 7]? = some u := ⟨_, List.getElem?_eq_getElem (by omega)⟩
  have e16 : bin .sub .i64 ii 16 = ((i - 16 : Nat) : Int) := by rw [hi, sub_i64 hA (by omega)]; omega
  obtain ⟨u16, g16⟩ : ∃ u, ws2[i - 16]? = some u := ⟨_, List.getElem?_eq_getElem (by omega)⟩
  refine ⟨by rw [e2]; omega, by rw [e2, ofN_ hA]; omega, rfl, ?_⟩
  refine ld_row hA 0 (r := ⟨some Wa, nw, nw, 117, 1, zr⟩) rfl rfl rfl (v := .int .u32 u2) (by show zr[_]? = _; rw [e2, hzr, ints, List.getElem?_map, Int.toNat_natCast, g2]; rfl) ?_
  conv => cbv
  refine (rotP hP R u2 (-17) (by simp)).callQ rfl ?_
  rintro _ ⟨q1, rfl, hq1⟩
  conv => cbv
  refine (rotP hP R u2 (-19) (by simp)).callQ rfl ?_
  rintro _ ⟨q2, rfl, hq2⟩
  conv => cbv
  refine ⟨by decide, ?_⟩
  refine ⟨by rw [e15]; omega, by rw [e15, ofN_ hA]; omega, rfl, ?_⟩
  refine ld_row hA 0 (r := ⟨some Wa, nw, nw, 117, 1, zr⟩) rfl rfl rfl (v := .int .u32 u15) (by show zr[_]? = _; rw [e15, hzr, ints, List.getElem?_map, Int.toNat_natCast, g15]; rfl) ?_
  conv => cbv
  refine (rotP hP R u15 (-7) (by simp)).callQ rfl ?_
  rintro _ ⟨q3, rfl, hq3⟩
  conv => cbv
  refine (rotP hP R u15 (-18) (by simp)).callQ rfl ?_
  rintro _ ⟨q4, rfl, hq4⟩
  conv => cbv
  refine ⟨by decide, ?_⟩
  refine ⟨[0, 1, 2, 3, 4, 5, 6, 7, 8, 9, 10, 11, 12, 13, 14, 15], [15], mix hP, by decide +kernel, ?_⟩
  conv => cbv
  refine ⟨by rw [e7]; omega, by rw [e7, ofN_ hA]; omega, rfl, ?_⟩
  refine ld_row hA 0 (r := ⟨some Wa, nw, nw, 117, 1, zr⟩) rfl rfl rfl (v := .int .u32 u7) (by show zr[_]? = _; rw [e7, hzr, ints, List.getElem?_map, Int.toNat_natCast, g7]; rfl) ?_
  conv => cbv
  refine ⟨by rw [e16]; omega, by rw [e16, ofN_ hA]; omega, rfl, ?_⟩
  refine ld_row hA 0 (r := ⟨some Wa, nw, nw, 117, 1, zr⟩) rfl rfl rfl (v := .int .u32 u16) (by show zr[_]? = _; rw [e16, hzr, ints, List.getElem?_map, Int.toNat_natCast, g16]; rfl) ?_
  conv => cbv
  obtain ⟨wv, hwv⟩ : ∃ wv, wv = bin .add .u32 (bin .add .u32 (bin .add .u32 (bin .xor .u32 (bin .xor .u32 q1 q2) (bin .shr .u32 u2 10)) u7) (bin .xor .u32 (bin .xor .u32 q3 q4) (bin .shr .u32 u15 3))) u16 := ⟨_, rfl⟩
  simp (maxSteps := 10000000) only [← hwv]
  have hwi : wv = wi ps2 ws2 i := by
    rw [hwv, wi, if_neg h16, wnw, List.getD_eq_getElem?_getD, g2, List.getD_eq_getElem?_getD, g7, List.getD_eq_getElem?_getD, g15, List.getD_eq_getElem?_getD, g16, hq1, hq2, hq3, hq4, bin_is hA]
    rfl
  refine ⟨by omega, by rw [ofN_ hA]; omega, rfl, ?_⟩
  refine ⟨0, _, Wa, i, rfl, rfl, by rw [elem_at (elem_is hA) _ _ _ hi], by show i + 1 ≤ zr.length; rw [hzr, ints_len, hwl2]; omega, ?_⟩
  intro zr2 hzr2
  have hzr2' : zr2 = ints .u32 (ws2.set i wv) := by
    rw [hzr2, hzr, ← ints_set' _ _ _ _ (by omega)]
    rfl
  conv => cbv
  refine ⟨[0, 1, 3, 6, 10, 11, 12, 13, 14, 15, 16, 17, 19, 20, 21, 23, 24, 25, 2, 4, 5, 7, 8, 9, 18, 22, 26, 27], [], mix hP, by decide +kernel, ?_⟩
  conv => cbv
  refine ⟨by omega, by rw [ofN_ hA]; omega, rfl, ?_⟩
  refine ld_ri hA hK (by omega) (by omega) ?_
  intro kv hkv _
  have hkv2 : kv = K.getD i 0 := by rw [hkv, hi, Int.toNat_natCast]
  conv => cbv
  refine ⟨by omega, by rw [ofN_ hA]; omega, rfl, ?_⟩
  refine ld_row hA 0 (r := ⟨some Wa, nw, nw, 117, 1, zr2⟩) rfl rfl rfl (v := .int .u32 wv) (by show zr2[_]? = _; rw [hi, hzr2', ints, List.getElem?_map, Int.toNat_natCast, List.getElem?_set, if_pos rfl, if_pos (by omega)]; rfl) ?_
  conv => cbv
  refine (rotP hP R F (-6) (by simp)).callQ rfl ?_
  rintro _ ⟨r1, rfl, hr1⟩
  conv => cbv
  refine ⟨⟨trivial, .refl _⟩, ?_⟩
  conv => cbv
  refine (rotP hP R F (-11) (by simp)).callQ rfl ?_
  rintro _ ⟨r2, rfl, hr2⟩
  conv => cbv
  refine ⟨⟨trivial, .refl _⟩, ?_⟩
  conv => cbv
  refine (rotP hP R F (-25) (by simp)).callQ rfl ?_
  rintro _ ⟨r3, rfl, hr3⟩
  conv => cbv
  refine ⟨⟨trivial, .refl _⟩, ?_⟩
  conv => cbv
  refine (rotP hP R A (-2) (by simp)).callQ rfl ?_
  rintro _ ⟨r4, rfl, hr4⟩
  conv => cbv
  refine (rotP hP R A (-13) (by simp)).callQ rfl ?_
  rintro _ ⟨r5, rfl, hr5⟩
  conv => cbv
  refine (rotP hP R A (-22) (by simp)).callQ rfl ?_
  rintro _ ⟨r6, rfl, hr6⟩
  conv => cbv
  refine ⟨64 - (i + 1), ⟨bin .add .i64 ii 1, _, A, B, C, _, F, G, H, zr2⟩, by omega, ⟨⟨rfl, rfl, rfl, rfl, rfl, rfl, rfl, rfl, rfl, rfl, rfl, rfl, rfl, rfl, rfl, rfl, rfl, rfl, rfl, rfl, trivial⟩, rfl, trivial, rfl, .refl _⟩, i + 1, ws2.set i wv, by show bin .add .i64 ii 1 = _; rw [hi, add_i64 hA (by omega)]; rfl, by omega, rfl, hzr2', by simp [hwl2], ?_⟩
  rw [rounds, hrd, ← hwi, ← hkv2, hr1, hr2, hr3, hr4, hr5, hr6, bin_is hA, com_is hA]
  rfl
end Go.Proofs.YtepfbdfbfimefaaDoor.Sha
end
section
set_option linter.unusedSimpArgs false
set_option linter.unusedVariables false
namespace Go.Proofs.YtepfbdfbfimefaaDoor.Sha
open Go Go.Se

theorem getD_drop (ps : List Int) (k j : Nat) : (ps.drop k).getD j 0 = ps.getD (k + j) 0 := by
  rw [List.getD_eq_getElem?_getD, List.getElem?_drop, ← List.getD_eq_getElem?_getD]

theorem getD_set_eq (ws : List Int) (i : Nat) (v : Int) (h : i < ws.length) : (ws.set i v).getD i 0 = v := by
  rw [List.getD_eq_getElem?_getD, List.getElem?_set_self h]
  rfl

theorem getD_set_ne (ws : List Int) (i j : Nat) (v : Int) (h : i ≠ j) : (ws.set i v).getD j 0 = ws.getD j 0 := by
  rw [List.getD_eq_getElem?_getD, List.getElem?_set_ne h, ← List.getD_eq_getElem?_getD]

/-- The rounds read the block's 64 bytes, and words that they wrote before. -/
theorem rounds_ws (K ps qs : List Int) (hps : ∀ j, j < 64 → ps.getD j 0 = qs.getD j 0) (s : S8) (w v : List Int) (hw : w.length = 64) (hv : v.length = 64) :
    ∀ n, n ≤ 64 → (rounds K ps n (s, w)).1 = (rounds K qs n (s, v)).1 ∧ ∀ i, i < n → (rounds K ps n (s, w)).2.getD i 0 = (rounds K qs n (s, v)).2.getD i 0
  | 0, _ => ⟨rfl, fun i h => absurd h (Nat.not_lt_zero i)⟩
  | n + 1, hn => by
    obtain ⟨h1, h2⟩ := rounds_ws K ps qs hps s w v hw hv n (by omega)
    have hwi : wi ps (rounds K ps n (s, w)).2 n = wi qs (rounds K qs n (s, v)).2 n := by
      unfold wi
      split
      · rename_i h
        rw [wrd, wrd, hps _ (by omega), hps _ (by omega), hps _ (by omega), hps _ (by omega)]
      · rename_i h
        rw [wnw, wnw, h2 _ (by omega), h2 _ (by omega), h2 _ (by omega), h2 _ (by omega)]
    refine ⟨by rw [rounds, rounds, h1, hwi], fun i hi => ?_⟩
    rw [rounds, rounds]
    simp only
    have l1 := rounds_len K ps n (s, w)
    have l2 := rounds_len K qs n (s, v)
    simp only at l1 l2
    by_cases h : n = i
    · subst h
      rw [getD_set_eq _ _ _ (by omega), getD_set_eq _ _ _ (by omega), hwi]
    · rw [getD_set_ne _ _ _ _ h, getD_set_ne _ _ _ _ h]
      exact h2 i (by omega)

def w0 : List Int := List.replicate 64 0
theorem w0_len : w0.length = 64 := by rw [w0, List.length_replicate]

/-- One block. -/
def blkF (K ps : List Int) (s : S8) : S8 := (blk1 K ps (s, w0)).1
/-- Some blocks. -/
def cmpr (K : List Int) : Nat → List Int → S8 → S8
  | 0, _, s => s
  | n + 1, ps, s => cmpr K n (ps.drop 64) (blkF K ps s)

theorem blk1_ws (K ps qs : List Int) (hps : ∀ j, j < 64 → ps.getD j 0 = qs.getD j 0) (s : S8) (w : List Int) (hw : w.length = 64) : (blk1 K ps (s, w)).1 = blkF K qs s := by
  rw [blkF, blk1, blk1, (rounds_ws K ps qs hps s w w0 hw w0_len 64 (Nat.le_refl _)).1]

theorem blks_cmpr (K : List Int) : ∀ (n : Nat) (ps : List Int) (s : S8) (w : List Int), w.length = 64 → (blks K n ps (s, w)).1 = cmpr K n ps s
  | 0, _, _, _, _ => rfl
  | n + 1, ps, s, w, hw => by
    rw [blks, cmpr]
    have h := blk1_ws K ps ps (fun _ _ => rfl) s w hw
    rw [← h]
    exact blks_cmpr K n _ _ _ (by show (rounds K ps 64 (s, w)).2.length = 64; rw [rounds_len]; exact hw)

theorem cmpr_ext (K : List Int) : ∀ (n : Nat) (ps qs : List Int) (s : S8), (∀ j, j < 64 * n → ps.getD j 0 = qs.getD j 0) → cmpr K n ps s = cmpr K n qs s
  | 0, _, _, _, _ => rfl
  | n + 1, ps, qs, s, h => by
    rw [cmpr, cmpr]
    have h1 : blkF K ps s = blkF K qs s := blk1_ws K ps qs (fun j hj => h j (by omega)) s w0 w0_len
    rw [h1]
    exact cmpr_ext K n _ _ _ fun j hj => by rw [getD_drop, getD_drop]; exact h _ (by omega)

theorem cmpr_add (K : List Int) : ∀ (a b : Nat) (ps : List Int) (s : S8), cmpr K (a + b) ps s = cmpr K b (ps.drop (64 * a)) (cmpr K a ps s)
  | 0, b, ps, s => by simp [cmpr]
  | a + 1, b, ps, s => by
    rw [show a + 1 + b = (a + b) + 1 by omega, cmpr, cmpr, cmpr_add K a b, List.drop_drop, show 64 + 64 * a = 64 * (a + 1) by omega]

theorem cmpr_app (K : List Int) (n : Nat) (ps qs : List Int) (s : S8) (h : 64 * n ≤ ps.length) : cmpr K n (ps ++ qs) s = cmpr K n ps s :=
  cmpr_ext K n _ _ s fun j hj => by
    rw [List.getD_eq_getElem?_getD, List.getElem?_append_left (by omega), ← List.getD_eq_getElem?_getD]

/-- Where a digest begins. -/
def S0 : S8 := ⟨1779033703, 3144134277, 1013904242, 2773480762, 1359893119, 2600822924, 528734635, 1541459225⟩

def S8.cs (s : S8) : List Value := [.int .u32 s.a, .int .u32 s.b, .int .u32 s.c, .int .u32 s.d, .int .u32 s.e, .int .u32 s.f, .int .u32 s.g, .int .u32 s.h]

/-- A digest that has taken the first n bytes of T; m is what it holds as the bytes' number. -/
def DgT (K T : List Int) (n : Nat) (m : Int) (zs : List Value) : Prop :=
  ∃ (s : S8) (buf : List Int) (q r : Nat), zs = s.cs ++ (ints .u8 buf ++ [.int .i64 r, .int .u64 m, .bool false]) ∧ buf.length = 64 ∧ n = 64 * q + r ∧ r < 64 ∧ n ≤ T.length ∧ s = cmpr K q T S0 ∧
    ∀ j, j < r → buf.getD j 0 = T.getD (64 * q + j) 0

/-- A digest that has taken these bytes. -/
def Dg (K bs : List Int) (zs : List Value) : Prop := DgT K bs bs.length bs.length zs

theorem Dg.t {K bs : List Int} {zs : List Value} (h : Dg K bs zs) (ps : List Int) : DgT K (bs ++ ps) bs.length bs.length zs := by
  obtain ⟨s, buf, q, r, h1, h2, h3, h4, h5, h6, h7⟩ := h
  refine ⟨s, buf, q, r, h1, h2, h3, h4, by simp, by rw [cmpr_app K q bs ps S0 (by omega)]; exact h6, fun j hj => ?_⟩
  rw [h7 j hj, List.getD_eq_getElem?_getD, List.getD_eq_getElem?_getD, List.getElem?_append_left (by omega)]

theorem DgT.len {K T : List Int} {n : Nat} {m : Int} {zs : List Value} (h : DgT K T n m zs) : zs.length = 75 := by
  obtain ⟨s, buf, q, r, h1, h2, h3, h4, h5, h6, h7⟩ := h
  rw [h1]
  simp [S8.cs, ints, h2]

/-- What stands behind the bytes: 128, zeros up to eight bytes ahead of a block's end, the number of bits. -/
def padN (n : Nat) : Nat := if n % 64 < 56 then 56 - n % 64 else 120 - n % 64
def be8 (n : Int) : List Int := [Ar.real.conv .u8 (Ar.real.bin .shr .u64 n 56), Ar.real.conv .u8 (Ar.real.bin .shr .u64 n 48), Ar.real.conv .u8 (Ar.real.bin .shr .u64 n 40), Ar.real.conv .u8 (Ar.real.bin .shr .u64 n 32),
  Ar.real.conv .u8 (Ar.real.bin .shr .u64 n 24), Ar.real.conv .u8 (Ar.real.bin .shr .u64 n 16), Ar.real.conv .u8 (Ar.real.bin .shr .u64 n 8), Ar.real.conv .u8 n]
def be4 (n : Int) : List Int := [Ar.real.conv .u8 (Ar.real.bin .shr .u32 n 24), Ar.real.conv .u8 (Ar.real.bin .shr .u32 n 16), Ar.real.conv .u8 (Ar.real.bin .shr .u32 n 8), Ar.real.conv .u8 n]
def pad (n : Nat) : List Int := (128 :: List.replicate (padN n - 1) 0) ++ be8 (Ar.real.bin .shl .u64 n 3)
/-- The hash of some bytes. -/
def S8.bytes (s : S8) : List Int := be4 s.a ++ be4 s.b ++ be4 s.c ++ be4 s.d ++ be4 s.e ++ be4 s.f ++ be4 s.g ++ be4 s.h
def shaS (K bs : List Int) : S8 := cmpr K ((bs.length + padN bs.length + 8) / 64) (bs ++ pad bs.length) S0
def sha (K bs : List Int) : List Int := (shaS K bs).bytes

theorem padN_pos (n : Nat) : 1 ≤ padN n ∧ padN n ≤ 64 ∧ (n + padN n + 8) % 64 = 0 := by
  unfold padN
  split <;> omega

theorem pad_len (n : Nat) : (pad n).length = padN n + 8 := by
  have := padN_pos n
  simp [pad, be8]
  omega

theorem sha_len (K bs : List Int) : (sha K bs).length = 32 := rfl
end Go.Proofs.YtepfbdfbfimefaaDoor.Sha
end
section
set_option linter.unusedSimpArgs false
set_option linter.unusedVariables false
namespace Go.Se
open Go

/-- A bound of a part: none, or a number. -/
def BndO (s : St) (x : Option Operand) (d n : Nat) : Prop := (x = none ∧ n = d) ∨ ∃ y k i, x = some y ∧ s.ev y = some (.v (.int k i)) ∧ i = (n : Int)

theorem raw_slice_arr {C : Cx} {s : St} {o : Oper} {T e n : Nat} {yT yE : Ty} (l h : Nat) {x : Operand} {lo hi : Option Operand} {K : SV → Prop} {a : Addr} (ho : o.op = .slice T x lo hi none) (hx : s.ev x = some (.v (.pointer (some a))))
    (hlo : BndO s lo 0 l) (hhi : BndO s hi n h) (h1 : l ≤ h) (h2 : h ≤ n) (hT : tyOf C.P T = some yT) (hd : yT.d = .arr n e) (hE : tyOf C.P e = some yE) (hs : yE.size = 1) (hK : ∀ a' m c, m = h - l → c = n - l → (l < n → a' = a.add l) → K (.v (.slice (some a') m c))) : RawH C s o K := by
  obtain ⟨iT, dT, -, hT, -, -, hdT, -, -⟩ := tyOf_all hT
  obtain ⟨j, dE, hj, -, -, hjs, -, -, -⟩ := tyOf_all hE
  have hs : j.size = 1 := by rw [hjs, hs]
  have hT : C.P.underlying T = some (.array n e) := by
    rw [hd] at hdT
    cases dT with
    | array n' e' => injection hdT with h1 h2; rw [hT, h1, h2]
    | _ => cases hdT
  refine ⟨.v (.slice (some (if n = l then a else a.add (l * j.size))) (h - l) (n - l)), trivial, hK _ _ _ rfl rfl (fun hl => by rw [if_neg (by omega), hs, Nat.mul_one]), fun ρ w hrel ev hev => ?_⟩
  unfold execOp
  rw [ho]
  simp only
  refine run_v ?_
  rw [hev x _ hx]
  simp only [Instr.sliceAt, bind, val]
  rw [run_bind_pure (run_und hT)]
  simp only [Instr.sureAddr]
  have hb : (Instr.sliceBounds false n n (lo.map ev) (hi.map ev) none).run C.P w = .ok (l, h, n) w := by
    rcases hlo with ⟨rfl, rfl⟩ | ⟨y, k, i, rfl, hy, rfl⟩ <;> rcases hhi with ⟨rfl, rfl⟩ | ⟨y2, k2, i2, rfl, hy2, rfl⟩
    · exact run_sliceBounds (k1 := .i64) (k2 := .i64) (.inl ⟨rfl, rfl⟩) (.inl ⟨rfl, rfl⟩) h1 h2
    · refine run_sliceBounds (k1 := .i64) (k2 := k2) (.inl ⟨rfl, rfl⟩) (.inr ?_) h1 h2
      rw [Option.map_some, hev y2 _ hy2]
      rfl
    · refine run_sliceBounds (k1 := k) (k2 := .i64) (.inr ?_) (.inl ⟨rfl, rfl⟩) h1 h2
      rw [Option.map_some, hev y _ hy]
      rfl
    · refine run_sliceBounds (k1 := k) (k2 := k2) (.inr ?_) (.inr ?_) h1 h2
      · rw [Option.map_some, hev y _ hy]
        rfl
      · rw [Option.map_some, hev y2 _ hy2]
        rfl
  rw [run_bind_pure (show (pure a : Sem Addr).run C.P w = .ok a w from rfl), Option.map_none, run_bind_pure hb]
  simp only
  rw [run_bind_pure (run_size hj)]
  rfl
end Go.Se
end
section
set_option linter.unusedSimpArgs false
set_option linter.unusedVariables false
namespace Go.Se
open Go

theorem own_perm {ρ : Nat → Nat} {nx : Nat} {rs rs' : List Row} (h : rs.Perm rs') {b : Nat} (hb : Own ρ nx rs b) : Own ρ nx rs' b := by
  rcases hb with hb | ⟨r, hr, hb⟩
  · exact .inl hb
  · exact .inr ⟨r, h.mem_iff.1 hr, hb⟩

theorem HRel.perm {R : RO} {hp : List (Nat × HB)} {nx : Nat} {rs rs' : List Row} {ρ : Nat → Nat} {w : World} (h : HRel R hp nx rs ρ w) (hpm : rs.Perm rs') : HRel R hp nx rs' ρ w :=
  ⟨h.blk, h.inj, h.lt, h.ro, h.dis, h.wf, fun r hr => h.row r (hpm.mem_iff.2 hr), fun r hr => h.rdis r (hpm.mem_iff.2 hr), (hpm.pairwise_iff (R := fun r r' : Row => ∀ g, r.blk = some g → r'.blk ≠ some g) (fun hab g h1 h2 => hab g h2 h1)).1 h.rpair⟩

/-- A call does not care for the order of the rows. -/
theorem CallP.perm {P : Program} {f : Nat} {args : List SV} {R : RO} {hp : List (Nat × HB)} {nx : Nat} {rs rs' : List Row} {K : RO → List (Nat × HB) → Nat → List Row → SV → Prop} (hpm : rs'.Perm rs) (h : CallP P f args R hp nx rs K) : CallP P f args R hp nx rs' K :=
  ⟨h.fn, fun ρ w hr => (h.go ρ w (hr.perm hpm)).mono fun e w' ⟨R', hp', nx', rs2, ρ', r, q1, q2, q3, q4, q5, q6, q7, qr, q8, q9, q10⟩ =>
    ⟨R', hp', nx', rs2, ρ', r, q1, q2, q3, q4, fun b o hb => (q5 b o hb).imp id (Or.imp id (own_perm hpm.symm)), q6, ⟨q7.os, q7.tape, q7.output, q7.size, fun k hk hS => q7.block k hk fun h => hS (own_perm hpm.symm h)⟩, fun q hq g hg => (qr q hq g hg).imp id (own_perm hpm.symm), q8, q9, q10⟩⟩

/-- .. nor do what follows it, where it says so. -/
theorem CallP.permK {P : Program} {f : Nat} {args : List SV} {R : RO} {hp : List (Nat × HB)} {nx : Nat} {rs : List Row} {K K2 : RO → List (Nat × HB) → Nat → List Row → SV → Prop} (h : CallP P f args R hp nx rs K)
    (hk : ∀ R' hp' nx' rs' r, K R' hp' nx' rs' r → ∃ rs2, rs'.Perm rs2 ∧ K2 R' hp' nx' rs2 r) : CallP P f args R hp nx rs K2 :=
  ⟨h.fn, fun ρ w hr => (h.go ρ w hr).mono fun e w' ⟨R', hp', nx', rs2, ρ', r, q1, q2, q3, q4, q5, q6, q7, qr, q8, q9, q10⟩ => by
    obtain ⟨rs3, hp3, hk3⟩ := hk _ _ _ _ _ q10
    exact ⟨R', hp', nx', rs3, ρ', r, q1, q2, q3, q4, q5, q6.perm hp3, q7, fun q hq g hg => qr q (hp3.mem_iff.2 hq) g hg, q8, q9, hk3⟩⟩
end Go.Se
end
