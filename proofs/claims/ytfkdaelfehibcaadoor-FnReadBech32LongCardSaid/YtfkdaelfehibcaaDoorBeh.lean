/- Texts of bech32: the package's check, and the digits that should have been. -/
import Derived.Test.YtfkdaelfehibcaaDoorBeg
import Derived.Test.YtfkdaelfehibcaaDoorTybg
set_option linter.unusedSimpArgs false
set_option linter.unusedVariables false
namespace Go.Proofs.YtfkdaelfehibcaaDoor.Be
open Go Go.Se Go.Proofs Go.Proofs.YtfkdaelfehibcaaDoor.Tybg

theorem sum_split (hs ds : List Int) {m : Nat} (hm : m = ds.length) : pmL (xpd hs ++ ((ds.drop 0).take (m - 6 - 0)).map byF ++ ((ds.drop (m - 6)).take (m - (m - 6))).map byF) 1 = sumOf hs ds := by
  have h1 : (ds.drop (m - 6)).take (m - (m - 6)) = ds.drop (m - 6) := List.take_of_length_le (by rw [List.length_drop]; omega)
  rw [h1, List.drop_zero, Nat.sub_zero, List.append_assoc, ← List.map_append, List.take_append_drop]
  rfl

set_option maxRecDepth 100000 in
set_option maxHeartbeats 2000000 in
theorem verifyI {P : Program} (hP : P = Tryd.prog) (R : RO) (ga : Option Addr) (g5 cg : Nat) (hg : Gen R ga g5 cg) (hg5 : g5 = 5) (hgs : ga.isSome = true) (x : ByteArray) (xs : List Int) (hx : SB x xs) (hl : xs.length ≤ 100000) (hr : ∀ c ∈ xs, 0 ≤ c ∧ c ≤ 255)
    (a : Option Addr) (n c : Nat) (vs : List Int) (hv : RI R .u8 a n vs) (hn : n ≤ 100000) (hc : n ≤ c) (h6 : 6 ≤ n) (hs : a.isSome = true) :
    RetP P 18 [.string x, .slice a n c] R fun _ r => ∃ v b, r = .tuple #[.int .u8 v, .bool b] ∧ ((b = true ∧ Sm xs vs) ∨ (b = false ∧ ¬ Sm xs vs)) := by
  subst hP
  obtain ⟨a, rfl⟩ := Option.isSome_iff_exists.1 hs
  have hvl := hv.len
  refine retP_vc (fz := []) Tryd.func18 rfl (by decide) rfl ok18 ?_
  intro P bin cmp cnv neg com bnot beq ofN toN at_ sub_ scmp cat sget ssz ssub elem fld_ hP hA
  conv => cbv
  obtain ⟨N6, hN6⟩ : ∃ N, N = n - 6 := ⟨_, rfl⟩
  have e6 : bin .sub .i64 (ofN n) 6 = ((N6 : Nat) : Int) := by rw [ofN_ hA, sub_i64 hA (by omega)]; omega
  have on := ofN_ hA n
  refine ⟨N6, n, e6.symm, rfl, by omega, hc, ?_⟩
  intro a1 n1 c1 hn1 hc1 ha1
  have k1 := hv.part' (l := N6) (m := n) (by omega) (Nat.le_refl _) hn1 hc ha1
  rw [if_neg (by omega)] at ha1
  obtain ⟨b1, rfl⟩ : ∃ b1, a1 = some b1 := ⟨_, ha1⟩
  conv => cbv
  refine ⟨0, N6, rfl, e6.symm, Nat.zero_le _, by omega, ?_⟩
  intro a2 n2 c2 hn2 hc2 ha2
  have k2 := hv.part' (l := 0) (m := N6) (Nat.zero_le _) (by omega) hn2 hc ha2
  conv => cbv
  refine (polymodI hP R ga g5 cg hg hg5 hgs x xs hx hl hr a2 n2 c2 _ k2 (by omega) b1 n1 c1 _ k1 (by omega)).callQ rfl ?_
  rintro _ ⟨p, rfl, hp⟩
  have hp : p = ((sumOf xs vs : Nat) : Int) := by rw [hp, hN6, sum_split xs vs hvl]
  conv => cbv
  refine callP_in (fz := []) hP hA Tryd.func25 rfl (by decide) rfl ok25 (by simp [labL, lab]) ?_
  conv => cbv
  by_cases h1 : p = 1
  · refine br_t (by rw [cmp_eql hA, h1]; rfl) ?_
    conv => cbv
    intro ρ R'' _ _ _
    exact ⟨_, _, rfl, .inl ⟨rfl, .inl (by omega)⟩⟩
  refine br_f (by rw [cmp_eql hA]; exact beq_false_of_ne h1) ?_
  conv => cbv
  by_cases h2 : p = 734539939
  · refine br_t (by rw [cmp_eql hA, h2]; rfl) ?_
    conv => cbv
    intro ρ R'' _ _ _
    exact ⟨_, _, rfl, .inl ⟨rfl, .inr (by omega)⟩⟩
  refine br_f (by rw [cmp_eql hA]; exact beq_false_of_ne h2) ?_
  conv => cbv
  intro ρ R'' _ _ _
  exact ⟨_, _, rfl, .inr ⟨rfl, fun h => by rcases h with h | h <;> omega⟩⟩

theorem cset_at (k : Nat) (h : k < 32) : ∃ d, cset[k]? = some d ∧ 0 ≤ d ∧ d ≤ 255 := by
  have : ∀ k < 32, (cset[k]?.map fun d => decide (0 ≤ d ∧ d ≤ 255)) = some true := by decide
  obtain ⟨d, h1, h2⟩ := Option.map_eq_some_iff.1 (this k h)
  exact ⟨d, h1, of_decide_eq_true h2⟩

structure Lc where
  i : Int
  a : Addr
  n : Nat
  c : Nat




set_option maxRecDepth 100000 in
set_option maxHeartbeats 2000000 in
theorem writeC1 {P : Program} (hP : P = Tryd.prog) (R : RO) (ga : Option Addr) (g5 cg : Nat) (hg : Gen R ga g5 cg) (hg5 : g5 = 5) (hgs : ga.isSome = true) (x : ByteArray) (xs : List Int) (hx : SB x xs) (hl : xs.length ≤ 100000) (hr : ∀ c ∈ xs, 0 ≤ c ∧ c ≤ 255)
    (a : Option Addr) (n c : Nat) (vs : List Int) (hv : RI R .u8 a n vs) (hn : n ≤ 100000) (a0 : Addr) (n0 c0 : Nat) (hn0 : n0 ≤ 1000) {K : RO → List (Nat × HB) → Nat → List Row → SV → Prop}
    (hk6 : ∀ (a2 : Addr) (n2 c2 : Nat) (r : SV), n2 = n0 + 6 → K R [(0, bB (.p 0 0) (some a2) n2 c2)] 1 [fR (some a2) n2 c2] r) :
    CallP P 20 [.v (.string x), .v (.slice a n c), .p 0 0, .v (.int .u8 0)] R [(0, bB (.p 0 0) (some a0) n0 c0)] 1 [fR (some a0) n0 c0] K := by
  subst hP
  refine callP_of_vc (fz := []) Tryd.func20 rfl (by decide) (Nat.le_of_ble_eq_true rfl) ok20 (by simp [labL, lab]) ?_
  rintro P ⟨bin, cmp, cnv, neg, com, bnot, beq, ofN, toN, at_, sub_, scmp, cat, sget, ssz, ssub, elem, fld_⟩ hP hA
  conv => cbv
  refine callP_in (fz := []) hP hA Tryd.func28 rfl (by decide) rfl ok28 (by simp [labL, lab]) ?_
  conv => cbv
  refine br_t (by rw [cmp_eql hA]; rfl) ?_
  conv => cbv
  refine (polymodN hP R ga g5 cg hg hg5 hgs x xs hx hl hr a n c _ hv hn 0 0 rfl).callQ rfl ?_
  rintro _ ⟨p, q, rfl, hp, hq⟩
  conv => cbv
  obtain ⟨pv, hpv⟩ : ∃ pv, pv = bin .xor .i64 p 1 := ⟨_, rfl⟩
  simp (maxSteps := 10000000) only [← hpv]
  obtain ⟨Q, hQ, hQl⟩ : ∃ Q : Nat, pv = Q ∧ Q < 2 ^ 30 := ⟨q ^^^ 1, by rw [hpv, hp]; exact xor_n hA (by omega) (by decide), Nat.xor_lt_two_pow hq (by decide)⟩
  refine ⟨Lc, fun y => ⟨[(10, .v (.int .i64 y.i)), (9, .v (.int .i64 pv)), (2, .p 0 0)], R, [(0, bB (.p 0 0) (some y.a) y.n y.c)], 1, [fR (some y.a) y.n y.c]⟩,
    fun k y => ∃ j : Nat, y.i = j ∧ j ≤ 6 ∧ k = 6 - j ∧ y.n = n0 + j,
    ⟨6, ⟨0, a0, n0, c0⟩, ⟨⟨rfl, rfl, rfl, trivial⟩, rfl, ⟨rfl, trivial⟩, rfl, .refl _⟩, 0, rfl, Nat.zero_le _, rfl, rfl⟩, ?_⟩
  rintro k ⟨i, a1, n1, c1⟩ ⟨j, hi, hj, hk, hn1⟩
  simp only at hi hn1
  conv => cbv
  by_cases hlt : j < 6
  case neg =>
    refine br_f (by rw [cmp_lss hA]; simp; omega) ?_
    conv => cbv
    have hn6 : n1 = n0 + 6 := by omega
    exact hk6 a1 n1 c1 _ hn6
  refine br_t (by rw [cmp_lss hA]; simp; omega) ?_
  conv => cbv
  have hi2 : bin .add .i64 i 1 = ((j + 1 : Nat) : Int) := by rw [hi, add_i64 hA (by omega)]; rfl
  have es : cnv .u64 (bin .mul .i64 5 (bin .sub .i64 5 i)) = ((5 * (5 - j) : Nat) : Int) := by rw [sub_i64 hA (by omega), mul_i64 hA (by omega), cnv_u64 hA (by omega)]; omega
  refine ⟨by rw [es]; omega, ?_⟩
  conv => cbv
  have er : bin .shr .i64 pv (cnv .u64 (bin .mul .i64 5 (bin .sub .i64 5 i))) = ((Q / 2 ^ (5 * (5 - j)) : Nat) : Int) := by
    rw [es, shr_i64 hA (by omega), hQ, Int.toNat_natCast]
    push_cast
    rfl
  have hdl := Nat.div_le_self Q (2 ^ (5 * (5 - j)))
  have ed : cnv .u8 (bin .and .i64 (bin .shr .i64 pv (cnv .u64 (bin .mul .i64 5 (bin .sub .i64 5 i)))) 31) = ((Q / 2 ^ (5 * (5 - j)) % 32 : Nat) : Int) := by
    have h1 : bin .and .i64 ((Q / 2 ^ (5 * (5 - j)) : Nat) : Int) 31 = ((Q / 2 ^ (5 * (5 - j)) % 32 : Nat) : Int) := and_low hA 5 (by omega) (by decide)
    rw [er, h1, cnv_u8 hA (by omega)]
  obtain ⟨dv, hdv⟩ : ∃ d, d = cnv .u8 (bin .and .i64 (bin .shr .i64 pv (cnv .u64 (bin .mul .i64 5 (bin .sub .i64 5 i)))) 31) := ⟨_, rfl⟩
  simp (maxSteps := 10000000) only [← hdv]
  rw [← hdv] at ed
  obtain ⟨D, hD⟩ : ∃ D, D = Q / 2 ^ (5 * (5 - j)) % 32 := ⟨_, rfl⟩
  rw [← hD] at ed
  have hD32 : D < 32 := by omega
  refine ⟨⟨by omega, by show dv < ((32 : Nat) : Int); omega⟩, ?_⟩
  obtain ⟨b, hb1, hb⟩ := cset_at D hD32
  obtain ⟨u, hu⟩ : ∃ u, u = sget ⟨#[113, 112, 122, 114, 121, 57, 120, 56, 103, 102, 50, 116, 118, 100, 119, 48, 115, 51, 106, 110, 53, 52, 107, 104, 99, 101, 54, 109, 117, 97, 55, 108]⟩ dv := ⟨_, rfl⟩
  simp (maxSteps := 10000000) only [← hu]
  have hub : u = b := by rw [hu]; exact sb_get hA cset_sb D ed hb1
  rw [hub]
  conv => cbv
  refine wbF1 hP R (some a1) n1 c1 (by omega) b hb ?_
  intro a2 n2 c2 r hn2
  conv => cbv
  exact ⟨6 - (j + 1), ⟨bin .add .i64 i 1, a2, n2, c2⟩, by omega, ⟨⟨rfl, rfl, rfl, trivial⟩, rfl, ⟨rfl, trivial⟩, rfl, .refl _⟩, j + 1, hi2, hlt, rfl, by show n2 = _; omega⟩

set_option maxRecDepth 100000 in
set_option maxHeartbeats 2000000 in
theorem writeC2 {P : Program} (hP : P = Tryd.prog) (R : RO) (ga : Option Addr) (g5 cg : Nat) (hg : Gen R ga g5 cg) (hg5 : g5 = 5) (hgs : ga.isSome = true) (x : ByteArray) (xs : List Int) (hx : SB x xs) (hl : xs.length ≤ 100000) (hr : ∀ c ∈ xs, 0 ≤ c ∧ c ≤ 255)
    (a : Option Addr) (n c : Nat) (vs : List Int) (hv : RI R .u8 a n vs) (hn : n ≤ 100000) (a0 : Addr) (n0 c0 : Nat) (hn0 : n0 ≤ 1000) (a3 : Option Addr) (n3 c3 : Nat) (q9 : Row) {K : RO → List (Nat × HB) → Nat → List Row → SV → Prop}
    (hk6 : ∀ (a2 : Addr) (n2 c2 : Nat) (r : SV), n2 = n0 + 6 → K R [(1, bB (.p 1 0) a3 n3 c3), (0, bB (.p 0 0) (some a2) n2 c2)] 2 [q9, fR (some a2) n2 c2] r) :
    CallP P 20 [.v (.string x), .v (.slice a n c), .p 0 0, .v (.int .u8 1)] R [(1, bB (.p 1 0) a3 n3 c3), (0, bB (.p 0 0) (some a0) n0 c0)] 2 [q9, fR (some a0) n0 c0] K := by
  subst hP
  refine callP_of_vc (fz := []) Tryd.func20 rfl (by decide) (Nat.le_of_ble_eq_true rfl) ok20 (by simp [labL, lab]) ?_
  rintro P ⟨bin, cmp, cnv, neg, com, bnot, beq, ofN, toN, at_, sub_, scmp, cat, sget, ssz, ssub, elem, fld_⟩ hP hA
  conv => cbv
  refine callP_in (fz := []) hP hA Tryd.func28 rfl (by decide) rfl ok28 (by simp [labL, lab]) ?_
  conv => cbv
  refine br_f (by rw [cmp_eql hA]; rfl) ?_
  conv => cbv
  refine br_t (by rw [cmp_eql hA]; rfl) ?_
  conv => cbv
  refine (polymodN hP R ga g5 cg hg hg5 hgs x xs hx hl hr a n c _ hv hn 0 0 rfl).callQ rfl ?_
  rintro _ ⟨p, q, rfl, hp, hq⟩
  conv => cbv
  obtain ⟨pv, hpv⟩ : ∃ pv, pv = bin .xor .i64 p 734539939 := ⟨_, rfl⟩
  simp (maxSteps := 10000000) only [← hpv]
  obtain ⟨Q, hQ, hQl⟩ : ∃ Q : Nat, pv = Q ∧ Q < 2 ^ 30 := ⟨q ^^^ 734539939, by rw [hpv, hp]; exact xor_n hA (by omega) (by decide), Nat.xor_lt_two_pow hq (by decide)⟩
  refine ⟨Lc, fun y => ⟨[(10, .v (.int .i64 y.i)), (9, .v (.int .i64 pv)), (2, .p 0 0)], R, [(1, bB (.p 1 0) a3 n3 c3), (0, bB (.p 0 0) (some y.a) y.n y.c)], 2, [q9, fR (some y.a) y.n y.c]⟩,
    fun k y => ∃ j : Nat, y.i = j ∧ j ≤ 6 ∧ k = 6 - j ∧ y.n = n0 + j,
    ⟨6, ⟨0, a0, n0, c0⟩, ⟨⟨rfl, rfl, rfl, trivial⟩, rfl, ⟨rfl, rfl, trivial⟩, rfl, .refl _⟩, 0, rfl, Nat.zero_le _, rfl, rfl⟩, ?_⟩
  rintro k ⟨i, a1, n1, c1⟩ ⟨j, hi, hj, hk, hn1⟩
  simp only at hi hn1
  conv => cbv
  by_cases hlt : j < 6
  case neg =>
    refine br_f (by rw [cmp_lss hA]; simp; omega) ?_
    conv => cbv
    have hn6 : n1 = n0 + 6 := by omega
    exact hk6 a1 n1 c1 _ hn6
  refine br_t (by rw [cmp_lss hA]; simp; omega) ?_
  conv => cbv
  have hi2 : bin .add .i64 i 1 = ((j + 1 : Nat) : Int) := by rw [hi, add_i64 hA (by omega)]; rfl
  have es : cnv .u64 (bin .mul .i64 5 (bin .sub .i64 5 i)) = ((5 * (5 - j) : Nat) : Int) := by rw [sub_i64 hA (by omega), mul_i64 hA (by omega), cnv_u64 hA (by omega)]; omega
  refine ⟨by rw [es]; omega, ?_⟩
  conv => cbv
  have er : bin .shr .i64 pv (cnv .u64 (bin .mul .i64 5 (bin .sub .i64 5 i))) = ((Q / 2 ^ (5 * (5 - j)) : Nat) : Int) := by
    rw [es, shr_i64 hA (by omega), hQ, Int.toNat_natCast]
    push_cast
    rfl
  have hdl := Nat.div_le_self Q (2 ^ (5 * (5 - j)))
  have ed : cnv .u8 (bin .and .i64 (bin .shr .i64 pv (cnv .u64 (bin .mul .i64 5 (bin .sub .i64 5 i)))) 31) = ((Q / 2 ^ (5 * (5 - j)) % 32 : Nat) : Int) := by
    have h1 : bin .and .i64 ((Q / 2 ^ (5 * (5 - j)) : Nat) : Int) 31 = ((Q / 2 ^ (5 * (5 - j)) % 32 : Nat) : Int) := and_low hA 5 (by omega) (by decide)
    rw [er, h1, cnv_u8 hA (by omega)]
  obtain ⟨dv, hdv⟩ : ∃ d, d = cnv .u8 (bin .and .i64 (bin .shr .i64 pv (cnv .u64 (bin .mul .i64 5 (bin .sub .i64 5 i)))) 31) := ⟨_, rfl⟩
  simp (maxSteps := 10000000) only [← hdv]
  rw [← hdv] at ed
  obtain ⟨D, hD⟩ : ∃ D, D = Q / 2 ^ (5 * (5 - j)) % 32 := ⟨_, rfl⟩
  rw [← hD] at ed
  have hD32 : D < 32 := by omega
  refine ⟨⟨by omega, by show dv < ((32 : Nat) : Int); omega⟩, ?_⟩
  obtain ⟨b, hb1, hb⟩ := cset_at D hD32
  obtain ⟨u, hu⟩ : ∃ u, u = sget ⟨#[113, 112, 122, 114, 121, 57, 120, 56, 103, 102, 50, 116, 118, 100, 119, 48, 115, 51, 106, 110, 53, 52, 107, 104, 99, 101, 54, 109, 117, 97, 55, 108]⟩ dv := ⟨_, rfl⟩
  simp (maxSteps := 10000000) only [← hu]
  have hub : u = b := by rw [hu]; exact sb_get hA cset_sb D ed hb1
  rw [hub]
  conv => cbv
  refine wbF2 hP R (some a1) n1 c1 (by omega) b hb _ (by simp [labL, lab]) q9 ?_
  intro a2 n2 c2 r hn2
  conv => cbv
  exact ⟨6 - (j + 1), ⟨bin .add .i64 i 1, a2, n2, c2⟩, by omega, ⟨⟨rfl, rfl, rfl, trivial⟩, rfl, ⟨rfl, rfl, trivial⟩, rfl, .refl _⟩, j + 1, hi2, hlt, rfl, by show n2 = _; omega⟩
end Go.Proofs.YtfkdaelfehibcaaDoor.Be
