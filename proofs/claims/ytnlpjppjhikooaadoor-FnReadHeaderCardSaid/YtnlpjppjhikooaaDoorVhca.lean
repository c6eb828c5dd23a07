/- A header of eighty bytes: the package's reads, whatever is left, into a part of a block. -/
import Derived.Test.YtnlpjppjhikooaaDoorVda
import Derived.Test.YtnlpjppjhikooaaDoorVha
import Derived.Test.YtnlpjppjhikooaaDoorTyvi
set_option linter.unusedSimpArgs false
set_option linter.unusedVariables false
namespace Go.Proofs.YtnlpjppjhikooaaDoor.Vh
open Go Go.Se Go.Proofs Go.Proofs.YtnlpjppjhikooaaDoor.Tyvi
open Go.Proofs.YtnlpjppjhikooaaDoor.Vr (mix methRead src0 add0 harmReturn ints_zero)
open Go.Proofs.YtnlpjppjhikooaaDoor.Vd (Lx Ers raw_iface_same)


set_option maxRecDepth 100000 in
set_option maxHeartbeats 4000000 in
theorem readA {P : Program} (hP : P = Tryd.prog) (R : RO) (ae au : Addr) (hE : Ers R ae au)  (ai : Option Addr) (ab a0 : Addr) (j : Nat) (hab : ab = a0.add j) (N c M cM i : Nat) (ii : Int) (hii : ii = i) (pr : Int) (xs : List Int) (zb : List Value) (hb : RI R .u8 ai N xs) (hN : N ≤ 4611686018427387904) (hc : N ≤ c)
    (hi : i ≤ N) (hM2 : M ≤ 4611686018427387904) (hMc : M ≤ cM) (L CL : Nat) (hML : j + M ≤ L) (hzb : zb.length = L) (r2 : Row) {K : RO → List (Nat × HB) → Nat → List Row → SV → Prop}
    (hg : i + M ≤ N → ∀ (zs : List Value) (pr' q m : Int), q = (i + M : Nat) → m = M → zs = (zb.take j ++ ints .u8 ((xs.drop i).take M)) ++ zb.drop (j + M) → K R [(2, ⟨120, []⟩), (1, ⟨127, [.v (.slice ai N c), .v (.int .i64 q), .v (.int .i64 pr')]⟩), (0, ⟨45, [.v (.int .i32 0), .v (.int .u8 0), .v (.int .u8 0), .v (.int .u8 0), .v (.int .u8 0), .v (.int .u8 0), .v (.int .u8 0), .v (.int .u8 0), .v (.int .u8 0), .v (.int .u8 0), .v (.int .u8 0), .v (.int .u8 0), .v (.int .u8 0), .v (.int .u8 0), .v (.int .u8 0), .v (.int .u8 0), .v (.int .u8 0), .v (.int .u8 0), .v (.int .u8 0), .v (.int .u8 0), .v (.int .u8 0), .v (.int .u8 0), .v (.int .u8 0), .v (.int .u8 0), .v (.int .u8 0), .v (.int .u8 0), .v (.int .u8 0), .v (.int .u8 0), .v (.int .u8 0), .v (.int .u8 0), .v (.int .u8 0), .v (.int .u8 0), .v (.int .u8 0), .v (.int .u8 0), .v (.int .u8 0), .v (.int .u8 0), .v (.int .u8 0), .v (.int .u8 0), .v (.int .u8 0), .v (.int .u8 0), .v (.int .u8 0), .v (.int .u8 0), .v (.int .u8 0), .v (.int .u8 0), .v (.int .u8 0), .v (.int .u8 0), .v (.int .u8 0), .v (.int .u8 0), .v (.int .u8 0), .v (.int .u8 0), .v (.int .u8 0), .v (.int .u8 0), .v (.int .u8 0), .v (.int .u8 0), .v (.int .u8 0), .v (.int .u8 0), .v (.int .u8 0), .v (.int .u8 0), .v (.int .u8 0), .v (.int .u8 0), .v (.int .u8 0), .v (.int .u8 0), .v (.int .u8 0), .v (.int .u8 0), .v (.int .u8 0), .v (.int .u32 0), .v (.int .u32 0), .v (.int .u32 0)]⟩)] 3 [⟨some a0, L, CL, 5, 1, zs⟩, r2] (.tu [.v (.int .i64 m), .v .nilIface]))
    (hbad : N < i + M → ∀ (zs : List Value) (pr' q m : Int) (t : Nat) (ad : Addr), zs.length = L → K R [(2, ⟨120, []⟩), (1, ⟨127, [.v (.slice ai N c), .v (.int .i64 q), .v (.int .i64 pr')]⟩), (0, ⟨45, [.v (.int .i32 0), .v (.int .u8 0), .v (.int .u8 0), .v (.int .u8 0), .v (.int .u8 0), .v (.int .u8 0), .v (.int .u8 0), .v (.int .u8 0), .v (.int .u8 0), .v (.int .u8 0), .v (.int .u8 0), .v (.int .u8 0), .v (.int .u8 0), .v (.int .u8 0), .v (.int .u8 0), .v (.int .u8 0), .v (.int .u8 0), .v (.int .u8 0), .v (.int .u8 0), .v (.int .u8 0), .v (.int .u8 0), .v (.int .u8 0), .v (.int .u8 0), .v (.int .u8 0), .v (.int .u8 0), .v (.int .u8 0), .v (.int .u8 0), .v (.int .u8 0), .v (.int .u8 0), .v (.int .u8 0), .v (.int .u8 0), .v (.int .u8 0), .v (.int .u8 0), .v (.int .u8 0), .v (.int .u8 0), .v (.int .u8 0), .v (.int .u8 0), .v (.int .u8 0), .v (.int .u8 0), .v (.int .u8 0), .v (.int .u8 0), .v (.int .u8 0), .v (.int .u8 0), .v (.int .u8 0), .v (.int .u8 0), .v (.int .u8 0), .v (.int .u8 0), .v (.int .u8 0), .v (.int .u8 0), .v (.int .u8 0), .v (.int .u8 0), .v (.int .u8 0), .v (.int .u8 0), .v (.int .u8 0), .v (.int .u8 0), .v (.int .u8 0), .v (.int .u8 0), .v (.int .u8 0), .v (.int .u8 0), .v (.int .u8 0), .v (.int .u8 0), .v (.int .u8 0), .v (.int .u8 0), .v (.int .u8 0), .v (.int .u8 0), .v (.int .u32 0), .v (.int .u32 0), .v (.int .u32 0)]⟩)] 3 [⟨some a0, L, CL, 5, 1, zs⟩, r2] (.tu [.v (.int .i64 m), .v (.iface t (.pointer (some ad)))])) :
    CallP P 102 [.ifc 72 (.p 1 0), .v (.slice (some ab) M cM)] R [(2, ⟨120, []⟩), (1, ⟨127, [.v (.slice ai N c), .v (.int .i64 ii), .v (.int .i64 pr)]⟩), (0, ⟨45, [.v (.int .i32 0), .v (.int .u8 0), .v (.int .u8 0), .v (.int .u8 0), .v (.int .u8 0), .v (.int .u8 0), .v (.int .u8 0), .v (.int .u8 0), .v (.int .u8 0), .v (.int .u8 0), .v (.int .u8 0), .v (.int .u8 0), .v (.int .u8 0), .v (.int .u8 0), .v (.int .u8 0), .v (.int .u8 0), .v (.int .u8 0), .v (.int .u8 0), .v (.int .u8 0), .v (.int .u8 0), .v (.int .u8 0), .v (.int .u8 0), .v (.int .u8 0), .v (.int .u8 0), .v (.int .u8 0), .v (.int .u8 0), .v (.int .u8 0), .v (.int .u8 0), .v (.int .u8 0), .v (.int .u8 0), .v (.int .u8 0), .v (.int .u8 0), .v (.int .u8 0), .v (.int .u8 0), .v (.int .u8 0), .v (.int .u8 0), .v (.int .u8 0), .v (.int .u8 0), .v (.int .u8 0), .v (.int .u8 0), .v (.int .u8 0), .v (.int .u8 0), .v (.int .u8 0), .v (.int .u8 0), .v (.int .u8 0), .v (.int .u8 0), .v (.int .u8 0), .v (.int .u8 0), .v (.int .u8 0), .v (.int .u8 0), .v (.int .u8 0), .v (.int .u8 0), .v (.int .u8 0), .v (.int .u8 0), .v (.int .u8 0), .v (.int .u8 0), .v (.int .u8 0), .v (.int .u8 0), .v (.int .u8 0), .v (.int .u8 0), .v (.int .u8 0), .v (.int .u8 0), .v (.int .u8 0), .v (.int .u8 0), .v (.int .u8 0), .v (.int .u32 0), .v (.int .u32 0), .v (.int .u32 0)]⟩)] 3 [⟨some a0, L, CL, 5, 1, zb⟩, r2] K := by
  subst hP
  have hlx := hb.len
  refine callP_of_vc (fz := []) Tryd.func102 rfl (by decide) (Nat.le_of_ble_eq_true rfl) ok102 (by simp [labL, lab]) ?_
  rintro P ⟨bin, cmp, cnv, neg, com, bnot, beq, ofN, toN, at_, sub_, scmp, cat, sget, ssz, ssub, elem, fld_⟩ hP hA
  conv => cbv
  refine callP_in (fz := []) hP hA Tryd.func122 rfl (by decide) rfl ok122 (by simp [labL, lab]) ?_
  conv => cbv
  obtain ⟨Mi, hMi⟩ : ∃ m : Int, m = M := ⟨_, rfl⟩
  have oM : ofN M = Mi := by rw [ofN_ hA M, hMi]
  have clt : cmp .lss Mi Mi = false := by rw [cmp_lss hA]; simp
  simp (maxSteps := 10000000) only [oM, clt]
  conv => cbv
  refine ⟨Lx, fun x => ⟨[(6, .v (.int .i64 x.n)), (7, .v x.e), (0, .ifc 72 (.p 1 0)), (1, .v (.slice (some ab) M cM)), (2, .v (.int .i64 Mi))], R, [(2, ⟨120, []⟩), (1, ⟨127, [.v (.slice ai N c), .v (.int .i64 x.i), .v (.int .i64 x.pr)]⟩), (0, ⟨45, [.v (.int .i32 0), .v (.int .u8 0), .v (.int .u8 0), .v (.int .u8 0), .v (.int .u8 0), .v (.int .u8 0), .v (.int .u8 0), .v (.int .u8 0), .v (.int .u8 0), .v (.int .u8 0), .v (.int .u8 0), .v (.int .u8 0), .v (.int .u8 0), .v (.int .u8 0), .v (.int .u8 0), .v (.int .u8 0), .v (.int .u8 0), .v (.int .u8 0), .v (.int .u8 0), .v (.int .u8 0), .v (.int .u8 0), .v (.int .u8 0), .v (.int .u8 0), .v (.int .u8 0), .v (.int .u8 0), .v (.int .u8 0), .v (.int .u8 0), .v (.int .u8 0), .v (.int .u8 0), .v (.int .u8 0), .v (.int .u8 0), .v (.int .u8 0), .v (.int .u8 0), .v (.int .u8 0), .v (.int .u8 0), .v (.int .u8 0), .v (.int .u8 0), .v (.int .u8 0), .v (.int .u8 0), .v (.int .u8 0), .v (.int .u8 0), .v (.int .u8 0), .v (.int .u8 0), .v (.int .u8 0), .v (.int .u8 0), .v (.int .u8 0), .v (.int .u8 0), .v (.int .u8 0), .v (.int .u8 0), .v (.int .u8 0), .v (.int .u8 0), .v (.int .u8 0), .v (.int .u8 0), .v (.int .u8 0), .v (.int .u8 0), .v (.int .u8 0), .v (.int .u8 0), .v (.int .u8 0), .v (.int .u8 0), .v (.int .u8 0), .v (.int .u8 0), .v (.int .u8 0), .v (.int .u8 0), .v (.int .u8 0), .v (.int .u8 0), .v (.int .u32 0), .v (.int .u32 0), .v (.int .u32 0)]⟩)], 3, [⟨some a0, L, CL, 5, 1, x.zs⟩, r2]⟩,
    fun m x => ∃ n : Nat, x.n = n ∧ x.i = (i + n : Nat) ∧ n ≤ M ∧ i + n ≤ N ∧ x.zs = (zb.take j ++ ints .u8 ((xs.drop i).take n)) ++ zb.drop (j + n) ∧ ((x.e = .nilIface ∧ m = 1 + (M - n)) ∨ (x.e = .iface 200 (.pointer (some ae)) ∧ m = 0 ∧ n < M ∧ i + n = N)),
    ⟨1 + M, ⟨0, ii, pr, zb, .nilIface⟩, ⟨⟨rfl, rfl, rfl, rfl, rfl, trivial⟩, rfl, ⟨rfl, rfl, rfl, trivial⟩, rfl, .refl _⟩, 0, rfl, hii, by omega, by omega, by show zb = (zb.take j ++ ints .u8 []) ++ zb.drop (j + 0); simp [ints], .inl ⟨rfl, rfl⟩⟩, ?_⟩
  rintro m ⟨ni, ix, pr', zs, e⟩ ⟨n, hn, hix, hnM, hnN, hzs, he⟩
  simp only at hn hix hzs he
  have hAl : (zb.take j ++ ints .u8 ((xs.drop i).take n)).length = j + n := by rw [List.length_append, ints_len, List.length_take, List.length_take, List.length_drop]; omega
  have hzl : zs.length = L := by rw [hzs, List.length_append, hAl, List.length_drop]; omega
  rcases he with ⟨rfl, hm⟩ | ⟨rfl, hm, hlt, hend⟩
  · conv => cbv
    by_cases hlt : n < M
    · have c1 : cmp .lss ni Mi = true := by rw [cmp_lss hA, hn, hMi]; simp; omega
      simp (maxSteps := 10000000) only [c1]
      conv => cbv
      refine ⟨[0, 1, 2, 3, 4, 5, 6, 7, 8, 9, 10, 11, 12], [7], mix hP, by kernel_rfl, ?_⟩
      conv => cbv
      refine ⟨n, M, by rw [hn]; rfl, rfl, by omega, by omega, ?_⟩
      intro a2 n2 c2 hn2 hc2 ha2
      obtain ⟨b2, hb2⟩ : ∃ b, b = ab.add n := ⟨_, rfl⟩
      obtain rfl : a2 = some b2 := by rw [ha2, if_neg (by omega), hb2]; show some (ab.add (n * 1)) = _; rw [Nat.mul_one]
      conv => cbv
      refine nilP_ptr (f := 160) (T := 72) (m := "Read") rfl rfl (fun ρ => ⟨⟨ρ 1, 0, none⟩, rfl⟩) (by rw [hP]; kernel_rfl) ?_
      conv => cbv
      refine gen_invoke (x := .p 1 0) (T := 72) rfl rfl rfl rfl rfl (methRead hP) ?_
      refine callP_in (fz := []) hP hA Tryd.func160 rfl (by decide) rfl ok160 (by simp [labL, lab]) ?_
      conv => cbv
      refine ⟨[0, 1, 2, 3, 4, 5, 6, 7, 8, 9], [], mix hP, by kernel_rfl, ?_⟩
      conv => cbv
      have oN : ofN N = (N : Int) := ofN_ hA N
      by_cases hEnd : i + n = N
      · have c3 : cmp .geq ix (ofN N) = true := by rw [oN, cmp_geq hA, hix]; simp; omega
        simp (maxSteps := 10000000) only [c3]
        conv => cbv
        refine ⟨[0, 1, 2], [], mix hP, by kernel_rfl, ?_⟩
        conv => cbv
        refine ⟨_, .inl hE.eof, ?_⟩
        conv => cbv
        have e0 : bin .add .i64 ni 0 = ni := by rw [add_i64 hA (by omega)]; omega
        refine ⟨0, ⟨bin .add .i64 ni 0, ix, pr', zs, .iface 200 (.pointer (some ae))⟩, by omega, ⟨⟨rfl, rfl, rfl, rfl, rfl, trivial⟩, rfl, ⟨rfl, rfl, rfl, trivial⟩, rfl, .refl _⟩, n, by show bin .add .i64 ni 0 = _; rw [e0, hn], hix, hnM, hnN, hzs, .inr ⟨rfl, rfl, hlt, hEnd⟩⟩
      have c3 : cmp .geq ix (ofN N) = false := by rw [oN, cmp_geq hA, hix]; simp; omega
      simp (maxSteps := 10000000) only [c3]
      conv => cbv
      refine ⟨[0, 1, 2, 3, 4, 5, 6, 7, 8, 9, 10, 11], [10], mix hP, by kernel_rfl, ?_⟩
      conv => cbv
      refine ⟨i + n, N, by rw [hix]; rfl, rfl, by omega, by omega, ?_⟩
      intro a3 n3 c3 hn3 hc3 ha3
      have hr3 := hb.part' (l := i + n) (m := N) (by omega) (Nat.le_refl _) hn3 hc ha3
      conv => cbv
      refine ⟨n3, _, hr3.src, .inr ⟨0, _, a0, j + n, b2, rfl, rfl, rfl, by rw [hb2, hab]; exact addr_add2 _ _ _, by show j + n + min n3 n2 * 1 ≤ zs.length; omega, ?_⟩⟩
      intro nw zw hnw hzw
      conv => cbv
      have onw : ofN nw = (nw : Int) := ofN_ hA nw
      have e0 : bin .add .i64 ni (ofN nw) = ((n + nw : Nat) : Int) := by rw [onw, hn, add_i64 hA (by omega)]; simp
      have e1 : bin .add .i64 ix (ofN nw) = ((i + (n + nw) : Nat) : Int) := by rw [onw, hix, add_i64 hA (by omega)]; push_cast; omega
      refine ⟨1 + (M - (n + nw)), ⟨bin .add .i64 ni (ofN nw), bin .add .i64 ix (ofN nw), -1, zw, .nilIface⟩, by omega, ⟨⟨rfl, rfl, rfl, rfl, rfl, trivial⟩, rfl, ⟨rfl, rfl, rfl, trivial⟩, rfl, .refl _⟩, n + nw, e0, e1, by omega, by omega, ?_, .inl ⟨rfl, rfl⟩⟩
      show zw = _
      rw [hzw]
      show List.take (j + n) zs ++ List.take (nw * 1) (ints .u8 (List.take (N - (i + n)) (List.drop (i + n) xs))) ++ List.drop (j + n + nw * 1) zs = _
      have h1 : List.take (j + n) zs = zb.take j ++ ints .u8 ((xs.drop i).take n) := by
        rw [hzs, ← hAl, List.take_left]
      have h2 : List.drop (j + n + nw * 1) zs = zb.drop (j + (n + nw)) := by
        rw [hzs, ← hAl, ← List.drop_drop, List.drop_left, hAl, List.drop_drop]
        congr 1
        omega
      have h3 : List.take (nw * 1) (ints .u8 (List.take (N - (i + n)) (List.drop (i + n) xs))) = ints .u8 ((xs.drop (i + n)).take nw) := by
        rw [Nat.mul_one]
        show List.take nw (List.map _ _) = List.map _ _
        rw [← List.map_take, List.take_take, Nat.min_eq_left (by omega)]
      rw [h1, h2, h3, List.append_assoc (zb.take j), ints_app]
      congr 3
      rw [List.take_add, List.drop_drop]
    · have hq : n = M := by omega
      have c1 : cmp .lss ni Mi = false := by rw [cmp_lss hA, hn, hMi]; simp; omega
      have c2 : cmp .geq ni Mi = true := by rw [cmp_geq hA, hn, hMi]; simp; omega
      simp (maxSteps := 10000000) only [c1]
      conv => cbv
      simp (maxSteps := 10000000) only [c2]
      conv => cbv
      subst hq
      exact hg hnN zs pr' ix ni hix hn hzs
  · conv => cbv
    have c1 : cmp .lss ni Mi = true := by rw [cmp_lss hA, hn, hMi]; simp; omega
    simp (maxSteps := 10000000) only [c1]
    conv => cbv
    have c2 : cmp .geq ni Mi = false := by rw [cmp_geq hA, hn, hMi]; simp; omega
    simp (maxSteps := 10000000) only [c2]
    conv => cbv
    by_cases h0 : n = 0
    · have c3 : cmp .gtr ni 0 = false := by rw [cmp_gtr hA, hn, h0]; rfl
      simp (maxSteps := 10000000) only [c3]
      conv => cbv
      exact hbad (by omega) zs pr' ix ni _ ae hzl
    have c3 : cmp .gtr ni 0 = true := by rw [cmp_gtr hA, hn]; simp; omega
    simp (maxSteps := 10000000) only [c3]
    conv => cbv
    refine ⟨_, .inl hE.eof, ?_⟩
    conv => cbv
    refine raw_iface_same (T := 58) (tp := 200) (te := 228) (a := ae) rfl rfl rfl (by rw [hP]; exact Tryd.underlying58) (by rw [hP]; exact Tryd.underlying200) (by rw [hP]; kernel_rfl) (by rw [hP]; kernel_rfl) ?_
    conv => cbv
    refine ⟨_, .inl hE.uex, ?_⟩
    conv => cbv
    exact hbad (by omega) zs pr' ix ni _ au hzl
end Go.Proofs.YtnlpjppjhikooaaDoor.Vh
