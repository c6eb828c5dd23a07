/- Numbers of variable length: the package's, read. -/
import Derived.Test.YtnlpjppjhikooaaDoorVrb
import Derived.Test.YtnlpjppjhikooaaDoorTyvs
import Derived.Test.YtnlpjppjhikooaaDoorVval
set_option linter.unusedSimpArgs false
set_option linter.unusedVariables false
namespace Go.Proofs.YtnlpjppjhikooaaDoor.Vr
open Go Go.Se Go.Proofs Go.Proofs.YtnlpjppjhikooaaDoor.Tyvs

theorem ri_pub {R : RO} {k : IntKind} {r : Row} {xs : List Int} (h : PubRow R r) (hs : r.a.isSome = true) (hn : r.n = xs.length) (h1 : r.sz = 1) (hx : r.xs = ints k xs) (hw : ∀ x ∈ xs, (Lit.int k x).wf = true) : RI R k r.a r.n xs := by
  obtain ⟨ad, ha⟩ := Option.isSome_iff_exists.1 hs
  obtain ⟨e1, cur, e2, e3, e4, e5⟩ := h ad ha
  refine ⟨hn, fun i h0 hi => ⟨hs, ?_⟩, hw⟩
  rw [ha]
  show rcell R (ad.add (i.toNat * 1)) = _
  rw [e1, cell_add]
  simp only [rcell, e2]
  have := ints_get (k := k) (j := i.toNat) (xs := xs) (by omega)
  rw [← hx, ← e5, h1, Nat.mul_one, List.getElem?_take, if_pos (by omega)] at this
  simpa using this

set_option maxRecDepth 100000 in
theorem lenP {P : Program} (hP : P = Tryd.prog) (R : RO) (vv : Int) (v : Nat) (hv : vv = v) (h64 : v < 18446744073709551616) : RetP P 17 [.int .u64 vv] R fun _ r => r = .int .i64 (vlen v) := by
  subst hP
  refine retP_vc (fz := []) Tryd.func17 rfl (by decide) rfl ok17 ?_
  intro P bin cmp cnv neg com bnot beq ofN toN at_ sub_ scmp cat sget ssz ssub elem fld_ hP hA
  conv => cbv
  refine callP_in (fz := []) hP hA Tryd.func40 rfl (by decide) rfl ok40 (by simp [labL, lab]) ?_
  conv => cbv
  by_cases h1 : v < 253
  · refine br_t (by rw [cmp_lss hA]; simp; omega) ?_
    conv => cbv
    intro ρ R'' _ _ _
    rw [vlen, if_pos h1]
    rfl
  refine br_f (by rw [cmp_lss hA]; simp; omega) ?_
  conv => cbv
  by_cases h2 : v < 65536
  · refine br_t (by rw [cmp_leq hA]; simp; omega) ?_
    conv => cbv
    intro ρ R'' _ _ _
    rw [vlen, if_neg h1, if_pos h2]
    rfl
  refine br_f (by rw [cmp_leq hA]; simp; omega) ?_
  conv => cbv
  by_cases h3 : v < 4294967296
  · refine br_t (by rw [cmp_leq hA]; simp; omega) ?_
    conv => cbv
    intro ρ R'' _ _ _
    rw [vlen, if_neg h1, if_neg h2, if_pos h3]
    rfl
  refine br_f (by rw [cmp_leq hA]; simp; omega) ?_
  conv => cbv
  intro ρ R'' _ _ _
  rw [vlen, if_neg h1, if_neg h2, if_neg h3]
  rfl








theorem methRead {P : Program} (hP : P = Tryd.prog) : Meth P 72 "Read" 160 := by
  subst hP
  exact meth_ptr (by kernel_rfl) Tryd.underlying72

structure Lr where
  n : Int
  i : Int
  pr : Int
  zs : List Value

set_option maxRecDepth 100000 in
set_option maxHeartbeats 2000000 in
/-- So many bytes of a reader. -/
theorem readFull {P : Program} (hP : P = Tryd.prog) (R : RO) (ai ab : Addr) (N c M cM i q : Nat) (hq : q = i + M) (pr : Int) (xs : List Int) (zb : List Value) (hb : RI R .u8 (some ai) N xs) (hN : N ≤ 4611686018427387904) (hc : N ≤ c)
    (hi : i + M ≤ N) (hM : 1 ≤ M) (hM8 : M ≤ 8) (hMc : M ≤ cM) (hzb : zb.length = 8) {K : RO → List (Nat × HB) → Nat → List Row → SV → Prop}
    (hk : ∀ zs : List Value, zs = ints .u8 ((xs.drop i).take M) ++ zb.drop M → K R [(1, ⟨120, []⟩), (0, ⟨127, [.v (.slice (some ai) N c), .v (.int .i64 (q : Int)), .v (.int .i64 (-1))]⟩)] 2 [⟨some ab, 8, 8, 5, 1, zs⟩] (.tu [.v (.int .i64 (M : Int)), .v .nilIface])) :
    CallP P 102 [.ifc 72 (.p 0 0), .v (.slice (some ab) M cM)] R [(1, ⟨120, []⟩), (0, ⟨127, [.v (.slice (some ai) N c), .v (.int .i64 (i : Int)), .v (.int .i64 pr)]⟩)] 2 [⟨some ab, 8, 8, 5, 1, zb⟩] K := by
  subst hP
  refine callP_of_vc (fz := []) Tryd.func102 rfl (by decide) (Nat.le_of_ble_eq_true rfl) ok102 (by simp [labL, lab]) ?_
  rintro P ⟨bin, cmp, cnv, neg, com, bnot, beq, ofN, toN, at_, sub_, scmp, cat, sget, ssz, ssub, elem, fld_⟩ hP hA
  conv => cbv
  refine callP_in (fz := []) hP hA Tryd.func122 rfl (by decide) rfl ok122 (by simp [labL, lab]) ?_
  conv => cbv
  have oM : ofN M = (M : Int) := ofN_ hA M
  have clt : cmp .lss (M : Int) (M : Int) = false := by rw [cmp_lss hA]; simp
  simp (maxSteps := 10000000) only [oM, clt]
  conv => cbv
  refine ⟨Lr, fun x => ⟨[(6, .v (.int .i64 x.n)), (7, .v .nilIface), (0, .ifc 72 (.p 0 0)), (1, .v (.slice (some ab) M cM)), (2, .v (.int .i64 (M : Int)))], R, [(1, ⟨120, []⟩), (0, ⟨127, [.v (.slice (some ai) N c), .v (.int .i64 x.i), .v (.int .i64 x.pr)]⟩)], 2, [⟨some ab, 8, 8, 5, 1, x.zs⟩]⟩,
    fun m x => (m = 1 ∧ x = ⟨0, i, pr, zb⟩) ∨ (m = 0 ∧ x = ⟨M, (q : Int), -1, ints .u8 ((xs.drop i).take M) ++ zb.drop M⟩),
    ⟨1, ⟨0, i, pr, zb⟩, ⟨⟨rfl, rfl, rfl, rfl, rfl, trivial⟩, rfl, ⟨rfl, rfl, trivial⟩, rfl, .refl _⟩, .inl ⟨rfl, rfl⟩⟩, ?_⟩
  rintro m ⟨n, ix, pr', zs⟩ (⟨hm, hx⟩ | ⟨hm, hx⟩)
  · obtain ⟨rfl, rfl, rfl, rfl⟩ : n = 0 ∧ ix = i ∧ pr' = pr ∧ zs = zb := by simpa using hx
    conv => cbv
    have c1 : cmp .lss 0 (Int.ofNat M) = true := by rw [cmp_lss hA]; simp; omega
    simp (maxSteps := 10000000) only [c1]
    conv => cbv
    refine ⟨[0, 1, 2, 3, 4, 5, 6, 7, 8, 9, 10, 11, 12], [7], mix hP, by kernel_rfl, ?_⟩
    conv => cbv
    refine ⟨0, M, rfl, rfl, by omega, by omega, ?_⟩
    intro a2 n2 c2 hn2 hc2 ha2
    obtain rfl : M = n2 := by omega
    obtain rfl : cM = c2 := by omega
    obtain rfl : a2 = some (ab.add 0) := by rw [ha2]; split <;> rfl
    conv => cbv
    refine nilP_ptr (f := 160) (T := 72) (m := "Read") rfl rfl (fun ρ => ⟨⟨ρ 0, 0, none⟩, rfl⟩) (by rw [hP]; kernel_rfl) ?_
    conv => cbv
    refine gen_invoke (x := .p 0 0) (T := 72) rfl rfl rfl rfl rfl (methRead hP) ?_
    refine callP_in (fz := []) hP hA Tryd.func160 rfl (by decide) rfl ok160 (by simp [labL, lab]) ?_
    conv => cbv
    refine ⟨[0, 1, 2, 3, 4, 5, 6, 7, 8, 9], [], mix hP, by kernel_rfl, ?_⟩
    conv => cbv
    have oN : ofN N = (N : Int) := ofN_ hA N
    have c3 : cmp .geq (Int.ofNat i) (ofN N) = false := by rw [oN, cmp_geq hA]; simp; omega
    simp (maxSteps := 10000000) only [c3]
    conv => cbv
    refine ⟨[0, 1, 2, 3, 4, 5, 6, 7, 8, 9, 10, 11], [10], mix hP, by kernel_rfl, ?_⟩
    conv => cbv
    refine ⟨i, N, rfl, rfl, by omega, by omega, ?_⟩
    intro a3 n3 c3 hn3 hc3 ha3
    have hr3 := hb.part' (l := i) (m := N) (by omega) (Nat.le_refl _) hn3 hc ha3
    conv => cbv
    refine ⟨n3, _, hr3.src, .inr ⟨0, _, ab, 0, ab, rfl, rfl, rfl, (add0 _).symm, by show 0 + min n3 M * 1 ≤ zs.length; omega, ?_⟩⟩
    intro nw zw hnw hzw
    obtain rfl : M = nw := by omega
    conv => cbv
    have e0 : bin .add .i64 0 (ofN M) = (M : Int) := by rw [oM, add_i64 hA (by omega)]; simp
    have e1 : bin .add .i64 (Int.ofNat i) (ofN M) = (q : Int) := by rw [oM, add_i64 hA (by simp; omega), hq]; simp
    refine ⟨0, ⟨M, (q : Int), -1, zw⟩, by omega, ⟨⟨?_, rfl, rfl, rfl, rfl, trivial⟩, rfl, ⟨rfl, ?_, trivial⟩, rfl, .refl _⟩, .inr ⟨rfl, ?_⟩⟩
    · show some (SV.v (Value.int .i64 _)) = some (SV.v (Value.int .i64 _))
      rw [e0]
    · show some (HB.mk _ [_, SV.v (Value.int .i64 _), _]) = some (HB.mk _ [_, SV.v (Value.int .i64 _), _])
      rw [e1]
    · have hlx := hb.len
      rw [hzw]
      have ht : List.take (M * 1) (ints .u8 (List.take (N - i) (List.drop i xs))) = ints .u8 ((xs.drop i).take M) := by
        rw [Nat.mul_one]
        show List.take M (List.map _ (List.take (N - i) (List.drop i xs))) = List.map _ _
        rw [← List.map_take, List.take_take, Nat.min_eq_left (by omega)]
      show Lr.mk _ _ _ (List.take 0 zs ++ List.take (M * 1) (ints .u8 (List.take (N - i) (List.drop i xs))) ++ List.drop (0 + M * 1) zs) = _
      rw [ht, Nat.zero_add, Nat.mul_one]
      rfl
  · obtain ⟨rfl, rfl, rfl, rfl⟩ : n = M ∧ ix = (q : Int) ∧ pr' = -1 ∧ zs = ints .u8 ((xs.drop i).take M) ++ zb.drop M := by simpa using hx
    obtain ⟨zs, hzs⟩ : ∃ zs, zs = ints .u8 ((xs.drop i).take M) ++ zb.drop M := ⟨_, rfl⟩
    rw [← hzs]
    conv => cbv
    have c1 : cmp .lss (Int.ofNat M) (Int.ofNat M) = false := by rw [cmp_lss hA]; simp
    have c2 : cmp .geq (Int.ofNat M) (Int.ofNat M) = true := by rw [cmp_geq hA]; simp
    simp (maxSteps := 10000000) only [c1]
    conv => cbv
    simp (maxSteps := 10000000) only [c2]
    conv => cbv
    exact hk zs hzs

set_option maxRecDepth 100000 in
set_option maxHeartbeats 2000000 in
theorem readP {P : Program} (hP : P = Tryd.prog) (R : RO) (v : Nat) (h64 : v < 18446744073709551616) (ai : Addr) (N c : Nat) (rest : List Int) (hb : RI R .u8 (some ai) N (vi v ++ rest)) (hN : N ≤ 4611686018427387904) (hc : N ≤ c) :
    RetP P 18 [.slice (some ai) N c] R fun _ r => r = .tuple #[.int .u64 v, .int .i64 (vlen v), .int .i64 0] := by
  subst hP
  have hlen := hb.len
  have hlen1 : (vi v).length = vlen v := vi_len v
  have hl9 := vlen_le v
  rw [List.length_append, hlen1] at hlen
  refine retP_vc (fz := []) Tryd.func18 rfl (by decide) rfl ok18 ?_
  intro P bin cmp cnv neg com bnot beq ofN toN at_ sub_ scmp cat sget ssz ssub elem fld_ hP hA
  conv => cbv
  refine callP_in (fz := []) hP hA Tryd.func41 rfl (by decide) rfl ok41 (by simp [labL, lab]) ?_
  conv => cbv
  refine callP_in (fz := []) hP hA Tryd.func68 rfl (by decide) rfl ok68 (by simp [labL, lab]) ?_
  conv => cbv
  refine callP_in (fz := []) hP hA Tryd.func42 rfl (by decide) rfl ok42 (by simp [labL, lab]) ?_
  conv => cbv
  refine callP_in (fz := []) hP hA Tryd.func65 rfl (by decide) rfl ok65 (by simp [labL, lab]) ?_
  conv => cbv
  refine ⟨by decide, by decide, by decide, by decide, ?_⟩
  intro ab nb cb zb hnb hcb hzb
  obtain rfl : nb = 8 := by omega
  obtain rfl : cb = 8 := by omega
  rw [ints_zero] at hzb
  conv => cbv
  refine defer_static rfl rfl rfl ⟨_, by rw [hP]; exact Tryd.func66, by decide, rfl⟩ (fun ρ w => harmReturn hP _ _ _ w) ?_
  conv => cbv
  refine callP_in (fz := []) hP hA Tryd.func69 rfl (by decide) rfl ok69 (by simp [labL, lab]) ?_
  conv => cbv
  refine ⟨0, 1, rfl, rfl, by decide, by decide, ?_⟩
  intro a1 n1 c1 hn1 hc1 ha1
  obtain rfl : n1 = 1 := by omega
  obtain rfl : c1 = 8 := by omega
  obtain rfl : a1 = some (ab.add 0) := by rw [ha1]; rfl
  conv => cbv
  have hpos : 1 ≤ vlen v := by unfold vlen; repeat' split <;> try omega
  refine readFull hP R ai ab N c 1 8 0 1 rfl (-1) (vi v ++ rest) zb hb hN hc (by omega) (by decide) (by decide) (by decide) (by rw [hzb]; rfl) ?_
  intro z1 hz1
  conv => cbv
  have nt : bnot true = false := by rw [bnot_ hA]; rfl
  simp (maxSteps := 10000000) only [nt]
  conv => cbv
  by_cases h1 : v < 253
  · have hvi : vi v = [(v : Int)] := by rw [vi, if_pos h1]
    have hz : z1 = .int .u8 v :: zb.drop 1 := by rw [hz1, hvi]; rfl
    refine ⟨by decide, by rw [ofN_ hA]; decide, rfl, ?_⟩
    refine ld_row hA 0 (r := ⟨some ab, 8, 8, 5, 1, z1⟩) rfl rfl rfl (v := .int .u8 v) (i := 0) (by show z1[0]? = _; rw [hz]; rfl) ?_
    conv => cbv
    refine br_f (by rw [cmp_eql hA]; simp; omega) ?_
    conv => cbv
    refine br_f (by rw [cmp_eql hA]; simp; omega) ?_
    conv => cbv
    refine br_f (by rw [cmp_eql hA]; simp; omega) ?_
    conv => cbv
    have hvv : cnv .u64 (Int.ofNat v) = (v : Int) := by rw [cnv_u64 hA (by simp; omega)]; rfl
    refine callP_in (fz := []) hP hA Tryd.func43 rfl (by decide) rfl ok43 (by simp [labL, lab]) ?_
    conv => cbv
    refine ⟨[0, 1, 2, 3, 4, 5, 6, 7, 8, 9], [], mix hP, by kernel_rfl, ?_⟩
    conv => cbv
    have oN : ofN N = (N : Int) := ofN_ hA N
    by_cases hq : N ≤ 1
    · refine br_t (by rw [oN, cmp_geq hA]; simp; omega) ?_
      conv => cbv
      refine callP_in (fz := []) hP hA Tryd.func44 rfl (by decide) rfl ok44 (by simp [labL, lab]) ?_
      conv => cbv
      intro ρ R'' _ _ _
      have hvl : vlen v = 1 := by rw [← hlen1, hvi]; rfl
      show Value.tuple #[.int .u64 (cnv .u64 (Int.ofNat v)), .int .i64 (bin .sub .i64 (ofN N) 0), .int .i64 0] = _
      have eL : bin .sub .i64 (ofN N) 0 = (vlen v : Int) := by
        rw [oN, hvl]
        rw [sub_i64 hA (by omega)]; omega
      rw [eL, hvv]
    refine br_f (by rw [oN, cmp_geq hA]; simp; omega) ?_
    conv => cbv
    refine ⟨[0, 1, 2, 3, 4, 5, 6, 7, 8, 9, 10], [], mix hP, by kernel_rfl, ?_⟩
    conv => cbv
    refine callP_in (fz := []) hP hA Tryd.func44 rfl (by decide) rfl ok44 (by simp [labL, lab]) ?_
    conv => cbv
    intro ρ R'' _ _ _
    have hvl : vlen v = 1 := by rw [← hlen1, hvi]; rfl
    show Value.tuple #[.int .u64 (cnv .u64 (Int.ofNat v)), .int .i64 (bin .sub .i64 (ofN N) (bin .sub .i64 (ofN N) (Int.ofNat 1))), .int .i64 0] = _
    have eL : bin .sub .i64 (ofN N) (bin .sub .i64 (ofN N) (Int.ofNat 1)) = (vlen v : Int) := by
      rw [oN, hvl]
      rw [show bin .sub .i64 (N : Int) (Int.ofNat 1) = (N : Int) - 1 from sub_i64 hA (by simp; omega), sub_i64 hA (by omega)]; omega
    rw [eL, hvv]
  by_cases h2 : v < 65536
  · have hvi : vi v = 253 :: le 2 v := by rw [vi, if_neg h1, if_pos h2]
    have hz : z1 = .int .u8 253 :: zb.drop 1 := by rw [hz1, hvi]; rfl
    refine ⟨by decide, by rw [ofN_ hA]; decide, rfl, ?_⟩
    refine ld_row hA 0 (r := ⟨some ab, 8, 8, 5, 1, z1⟩) rfl rfl rfl (v := .int .u8 253) (i := 0) (by show z1[0]? = _; rw [hz]; rfl) ?_
    conv => cbv
    refine br_f (by rw [cmp_eql hA]; simp) ?_
    conv => cbv
    refine br_f (by rw [cmp_eql hA]; simp) ?_
    conv => cbv
    refine br_t (by rw [cmp_eql hA]; simp) ?_
    conv => cbv
    have hvl : vlen v = 3 := by rw [← hlen1, hvi]; rfl
    refine ⟨0, 2, rfl, rfl, by decide, by decide, ?_⟩
    intro a6 n6 c6 hn6 hc6 ha6
    obtain rfl : n6 = 2 := by omega
    obtain rfl : c6 = 8 := by omega
    obtain rfl : a6 = some (ab.add 0) := by rw [ha6]; rfl
    conv => cbv
    refine readFull hP R ai ab N c 2 8 1 3 rfl (-1) (vi v ++ rest) z1 hb hN hc (by omega) (by decide) (by decide) (by decide) (by rw [hz, hzb]; rfl) ?_
    intro z2 hz2
    conv => cbv
    simp (maxSteps := 10000000) only [nt]
    conv => cbv
    obtain ⟨D0, hD0⟩ : ∃ d : Int, d = ((v / 256 ^ 0 % 256 : Nat) : Int) := ⟨_, rfl⟩
    obtain ⟨D1, hD1⟩ : ∃ d : Int, d = ((v / 256 ^ 1 % 256 : Nat) : Int) := ⟨_, rfl⟩
    have hy : z2 = .int .u8 D0 :: .int .u8 D1 :: z1.drop 2 := by rw [hz2, hvi, hD0, hD1]; rfl
    refine ⟨[0, 1, 2, 3, 4, 5], [], mix hP, by kernel_rfl, ?_⟩
    conv => cbv
    refine ⟨_, ⟨[], rfl, rfl, fun i v h => nomatch h⟩, ?_⟩
    conv => cbv
    refine ⟨0, 2, rfl, rfl, by decide, by decide, ?_⟩
    intro a8 n8 c8 hn8 hc8 ha8
    obtain rfl : n8 = 2 := by omega
    obtain rfl : c8 = 8 := by omega
    obtain rfl : a8 = some (ab.add 0) := by rw [ha8]; rfl
    conv => cbv
    refine callP_in (fz := []) hP hA Tryd.func106 rfl (by decide) rfl ok106 (by simp [labL, lab]) ?_
    conv => cbv
    refine ⟨by decide, by rw [ofN_ hA]; decide, rfl, ?_⟩
    refine ld_row hA 0 (r := ⟨some ab, 8, 8, 5, 1, z2⟩) rfl rfl rfl (v := .int .u8 D1) (i := 1) (by show z2[1]? = _; rw [hy]; rfl) ?_
    conv => cbv
    refine ⟨[0, 1, 2, 3, 4, 5, 6, 7, 8, 9, 10], [], mix hP, by kernel_rfl, ?_⟩
    conv => cbv
    refine ⟨by decide, by rw [ofN_ hA]; decide, rfl, ?_⟩
    refine ld_row hA 0 (r := ⟨some ab, 8, 8, 5, 1, z2⟩) rfl rfl rfl (v := .int .u8 D0) (i := 0) (by show z2[0]? = _; rw [hy]; rfl) ?_
    conv => cbv
    refine ⟨by decide, by rw [ofN_ hA]; decide, rfl, ?_⟩
    refine ld_row hA 0 (r := ⟨some ab, 8, 8, 5, 1, z2⟩) rfl rfl rfl (v := .int .u8 D1) (i := 1) (by show z2[1]? = _; rw [hy]; rfl) ?_
    conv => cbv
    refine ⟨by decide, ?_⟩
    refine ⟨⟨⟨rfl, rfl, trivial⟩, .refl _⟩, ?_⟩
    conv => cbv
    have hvv : cnv .u64 (bin .or .u16 (cnv .u16 D0) (bin .shl .u16 (cnv .u16 D1) 8)) = (v : Int) := val2 hA h2 hD0 hD1
    refine br_f (by rw [hvv, cmp_lss hA]; simp; omega) ?_
    conv => cbv
    refine callP_in (fz := []) hP hA Tryd.func43 rfl (by decide) rfl ok43 (by simp [labL, lab]) ?_
    conv => cbv
    refine ⟨[0, 1, 2, 3, 4, 5, 6, 7, 8, 9], [], mix hP, by kernel_rfl, ?_⟩
    conv => cbv
    have oN : ofN N = (N : Int) := ofN_ hA N
    by_cases hq : N ≤ 3
    · refine br_t (by rw [oN, cmp_geq hA]; simp; omega) ?_
      conv => cbv
      refine callP_in (fz := []) hP hA Tryd.func44 rfl (by decide) rfl ok44 (by simp [labL, lab]) ?_
      conv => cbv
      intro ρ R'' _ _ _
      have hvl : vlen v = 3 := by rw [← hlen1, hvi]; rfl
      show Value.tuple #[.int .u64 (cnv .u64 (bin .or .u16 (cnv .u16 D0) (bin .shl .u16 (cnv .u16 D1) 8))), .int .i64 (bin .sub .i64 (ofN N) 0), .int .i64 0] = _
      have eL : bin .sub .i64 (ofN N) 0 = (vlen v : Int) := by
        rw [oN, hvl]
        rw [sub_i64 hA (by omega)]; omega
      rw [eL, hvv]
    refine br_f (by rw [oN, cmp_geq hA]; simp; omega) ?_
    conv => cbv
    refine ⟨[0, 1, 2, 3, 4, 5, 6, 7, 8, 9, 10], [], mix hP, by kernel_rfl, ?_⟩
    conv => cbv
    refine callP_in (fz := []) hP hA Tryd.func44 rfl (by decide) rfl ok44 (by simp [labL, lab]) ?_
    conv => cbv
    intro ρ R'' _ _ _
    have hvl : vlen v = 3 := by rw [← hlen1, hvi]; rfl
    show Value.tuple #[.int .u64 (cnv .u64 (bin .or .u16 (cnv .u16 D0) (bin .shl .u16 (cnv .u16 D1) 8))), .int .i64 (bin .sub .i64 (ofN N) (bin .sub .i64 (ofN N) (Int.ofNat 3))), .int .i64 0] = _
    have eL : bin .sub .i64 (ofN N) (bin .sub .i64 (ofN N) (Int.ofNat 3)) = (vlen v : Int) := by
      rw [oN, hvl]
      rw [show bin .sub .i64 (N : Int) (Int.ofNat 3) = (N : Int) - 3 from sub_i64 hA (by simp; omega), sub_i64 hA (by omega)]; omega
    rw [eL, hvv]
  by_cases h3 : v < 4294967296
  · have hvi : vi v = 254 :: le 4 v := by rw [vi, if_neg h1, if_neg h2, if_pos h3]
    have hz : z1 = .int .u8 254 :: zb.drop 1 := by rw [hz1, hvi]; rfl
    refine ⟨by decide, by rw [ofN_ hA]; decide, rfl, ?_⟩
    refine ld_row hA 0 (r := ⟨some ab, 8, 8, 5, 1, z1⟩) rfl rfl rfl (v := .int .u8 254) (i := 0) (by show z1[0]? = _; rw [hz]; rfl) ?_
    conv => cbv
    refine br_f (by rw [cmp_eql hA]; simp) ?_
    conv => cbv
    refine br_t (by rw [cmp_eql hA]; simp) ?_
    conv => cbv
    have hvl : vlen v = 5 := by rw [← hlen1, hvi]; rfl
    refine ⟨0, 4, rfl, rfl, by decide, by decide, ?_⟩
    intro a6 n6 c6 hn6 hc6 ha6
    obtain rfl : n6 = 4 := by omega
    obtain rfl : c6 = 8 := by omega
    obtain rfl : a6 = some (ab.add 0) := by rw [ha6]; rfl
    conv => cbv
    refine readFull hP R ai ab N c 4 8 1 5 rfl (-1) (vi v ++ rest) z1 hb hN hc (by omega) (by decide) (by decide) (by decide) (by rw [hz, hzb]; rfl) ?_
    intro z2 hz2
    conv => cbv
    simp (maxSteps := 10000000) only [nt]
    conv => cbv
    obtain ⟨D0, hD0⟩ : ∃ d : Int, d = ((v / 256 ^ 0 % 256 : Nat) : Int) := ⟨_, rfl⟩
    obtain ⟨D1, hD1⟩ : ∃ d : Int, d = ((v / 256 ^ 1 % 256 : Nat) : Int) := ⟨_, rfl⟩
    obtain ⟨D2, hD2⟩ : ∃ d : Int, d = ((v / 256 ^ 2 % 256 : Nat) : Int) := ⟨_, rfl⟩
    obtain ⟨D3, hD3⟩ : ∃ d : Int, d = ((v / 256 ^ 3 % 256 : Nat) : Int) := ⟨_, rfl⟩
    have hy : z2 = .int .u8 D0 :: .int .u8 D1 :: .int .u8 D2 :: .int .u8 D3 :: z1.drop 4 := by rw [hz2, hvi, hD0, hD1, hD2, hD3]; rfl
    refine ⟨[0, 1, 2, 3, 4, 5], [], mix hP, by kernel_rfl, ?_⟩
    conv => cbv
    refine ⟨_, ⟨[], rfl, rfl, fun i v h => nomatch h⟩, ?_⟩
    conv => cbv
    refine ⟨0, 4, rfl, rfl, by decide, by decide, ?_⟩
    intro a8 n8 c8 hn8 hc8 ha8
    obtain rfl : n8 = 4 := by omega
    obtain rfl : c8 = 8 := by omega
    obtain rfl : a8 = some (ab.add 0) := by rw [ha8]; rfl
    conv => cbv
    refine callP_in (fz := []) hP hA Tryd.func105 rfl (by decide) rfl ok105 (by simp [labL, lab]) ?_
    conv => cbv
    refine ⟨by decide, by rw [ofN_ hA]; decide, rfl, ?_⟩
    refine ld_row hA 0 (r := ⟨some ab, 8, 8, 5, 1, z2⟩) rfl rfl rfl (v := .int .u8 D3) (i := 3) (by show z2[3]? = _; rw [hy]; rfl) ?_
    conv => cbv
    refine ⟨[0, 1, 2, 3, 4, 5, 6, 7, 8, 9, 10, 11, 12, 13, 14, 15, 16, 17, 18, 19, 20, 21, 22], [], mix hP, by kernel_rfl, ?_⟩
    conv => cbv
    refine ⟨by decide, by rw [ofN_ hA]; decide, rfl, ?_⟩
    refine ld_row hA 0 (r := ⟨some ab, 8, 8, 5, 1, z2⟩) rfl rfl rfl (v := .int .u8 D0) (i := 0) (by show z2[0]? = _; rw [hy]; rfl) ?_
    conv => cbv
    refine ⟨by decide, by rw [ofN_ hA]; decide, rfl, ?_⟩
    refine ld_row hA 0 (r := ⟨some ab, 8, 8, 5, 1, z2⟩) rfl rfl rfl (v := .int .u8 D1) (i := 1) (by show z2[1]? = _; rw [hy]; rfl) ?_
    conv => cbv
    refine ⟨by decide, ?_⟩
    refine ⟨by decide, by rw [ofN_ hA]; decide, rfl, ?_⟩
    refine ld_row hA 0 (r := ⟨some ab, 8, 8, 5, 1, z2⟩) rfl rfl rfl (v := .int .u8 D2) (i := 2) (by show z2[2]? = _; rw [hy]; rfl) ?_
    conv => cbv
    refine ⟨by decide, ?_⟩
    refine ⟨by decide, by rw [ofN_ hA]; decide, rfl, ?_⟩
    refine ld_row hA 0 (r := ⟨some ab, 8, 8, 5, 1, z2⟩) rfl rfl rfl (v := .int .u8 D3) (i := 3) (by show z2[3]? = _; rw [hy]; rfl) ?_
    conv => cbv
    refine ⟨by decide, ?_⟩
    refine ⟨⟨⟨rfl, rfl, trivial⟩, .refl _⟩, ?_⟩
    conv => cbv
    have hvv : (cnv .u64 (bin .or .u32 (bin .or .u32 (bin .or .u32 (cnv .u32 D0) (bin .shl .u32 (cnv .u32 D1) 8)) (bin .shl .u32 (cnv .u32 D2) 16)) (bin .shl .u32 (cnv .u32 D3) 24))) = (v : Int) := val4 hA h3 hD0 hD1 hD2 hD3
    refine br_f (by rw [hvv, cmp_lss hA]; simp; omega) ?_
    conv => cbv
    refine callP_in (fz := []) hP hA Tryd.func43 rfl (by decide) rfl ok43 (by simp [labL, lab]) ?_
    conv => cbv
    refine ⟨[0, 1, 2, 3, 4, 5, 6, 7, 8, 9], [], mix hP, by kernel_rfl, ?_⟩
    conv => cbv
    have oN : ofN N = (N : Int) := ofN_ hA N
    by_cases hq : N ≤ 5
    · refine br_t (by rw [oN, cmp_geq hA]; simp; omega) ?_
      conv => cbv
      refine callP_in (fz := []) hP hA Tryd.func44 rfl (by decide) rfl ok44 (by simp [labL, lab]) ?_
      conv => cbv
      intro ρ R'' _ _ _
      have hvl : vlen v = 5 := by rw [← hlen1, hvi]; rfl
      show Value.tuple #[.int .u64 (cnv .u64 (bin .or .u32 (bin .or .u32 (bin .or .u32 (cnv .u32 D0) (bin .shl .u32 (cnv .u32 D1) 8)) (bin .shl .u32 (cnv .u32 D2) 16)) (bin .shl .u32 (cnv .u32 D3) 24))), .int .i64 (bin .sub .i64 (ofN N) 0), .int .i64 0] = _
      have eL : bin .sub .i64 (ofN N) 0 = (vlen v : Int) := by
        rw [oN, hvl]
        rw [sub_i64 hA (by omega)]; omega
      rw [eL, hvv]
    refine br_f (by rw [oN, cmp_geq hA]; simp; omega) ?_
    conv => cbv
    refine ⟨[0, 1, 2, 3, 4, 5, 6, 7, 8, 9, 10], [], mix hP, by kernel_rfl, ?_⟩
    conv => cbv
    refine callP_in (fz := []) hP hA Tryd.func44 rfl (by decide) rfl ok44 (by simp [labL, lab]) ?_
    conv => cbv
    intro ρ R'' _ _ _
    have hvl : vlen v = 5 := by rw [← hlen1, hvi]; rfl
    show Value.tuple #[.int .u64 (cnv .u64 (bin .or .u32 (bin .or .u32 (bin .or .u32 (cnv .u32 D0) (bin .shl .u32 (cnv .u32 D1) 8)) (bin .shl .u32 (cnv .u32 D2) 16)) (bin .shl .u32 (cnv .u32 D3) 24))), .int .i64 (bin .sub .i64 (ofN N) (bin .sub .i64 (ofN N) (Int.ofNat 5))), .int .i64 0] = _
    have eL : bin .sub .i64 (ofN N) (bin .sub .i64 (ofN N) (Int.ofNat 5)) = (vlen v : Int) := by
      rw [oN, hvl]
      rw [show bin .sub .i64 (N : Int) (Int.ofNat 5) = (N : Int) - 5 from sub_i64 hA (by simp; omega), sub_i64 hA (by omega)]; omega
    rw [eL, hvv]
  have hvi : vi v = 255 :: le 8 v := by rw [vi, if_neg h1, if_neg h2, if_neg h3]
  have hz : z1 = .int .u8 255 :: zb.drop 1 := by rw [hz1, hvi]; rfl
  refine ⟨by decide, by rw [ofN_ hA]; decide, rfl, ?_⟩
  refine ld_row hA 0 (r := ⟨some ab, 8, 8, 5, 1, z1⟩) rfl rfl rfl (v := .int .u8 255) (i := 0) (by show z1[0]? = _; rw [hz]; rfl) ?_
  conv => cbv
  refine br_t (by rw [cmp_eql hA]; simp) ?_
  conv => cbv
  have hvl : vlen v = 9 := by rw [← hlen1, hvi]; rfl
  refine readFull hP R ai ab N c 8 8 1 9 rfl (-1) (vi v ++ rest) z1 hb hN hc (by omega) (by decide) (by decide) (by decide) (by rw [hz, hzb]; rfl) ?_
  intro z2 hz2
  conv => cbv
  simp (maxSteps := 10000000) only [nt]
  conv => cbv
  obtain ⟨D0, hD0⟩ : ∃ d : Int, d = ((v / 256 ^ 0 % 256 : Nat) : Int) := ⟨_, rfl⟩
  obtain ⟨D1, hD1⟩ : ∃ d : Int, d = ((v / 256 ^ 1 % 256 : Nat) : Int) := ⟨_, rfl⟩
  obtain ⟨D2, hD2⟩ : ∃ d : Int, d = ((v / 256 ^ 2 % 256 : Nat) : Int) := ⟨_, rfl⟩
  obtain ⟨D3, hD3⟩ : ∃ d : Int, d = ((v / 256 ^ 3 % 256 : Nat) : Int) := ⟨_, rfl⟩
  obtain ⟨D4, hD4⟩ : ∃ d : Int, d = ((v / 256 ^ 4 % 256 : Nat) : Int) := ⟨_, rfl⟩
  obtain ⟨D5, hD5⟩ : ∃ d : Int, d = ((v / 256 ^ 5 % 256 : Nat) : Int) := ⟨_, rfl⟩
  obtain ⟨D6, hD6⟩ : ∃ d : Int, d = ((v / 256 ^ 6 % 256 : Nat) : Int) := ⟨_, rfl⟩
  obtain ⟨D7, hD7⟩ : ∃ d : Int, d = ((v / 256 ^ 7 % 256 : Nat) : Int) := ⟨_, rfl⟩
  have hy : z2 = .int .u8 D0 :: .int .u8 D1 :: .int .u8 D2 :: .int .u8 D3 :: .int .u8 D4 :: .int .u8 D5 :: .int .u8 D6 :: .int .u8 D7 :: z1.drop 8 := by rw [hz2, hvi, hD0, hD1, hD2, hD3, hD4, hD5, hD6, hD7]; rfl
  refine ⟨_, ⟨[], rfl, rfl, fun i v h => nomatch h⟩, ?_⟩
  conv => cbv
  refine callP_in (fz := []) hP hA Tryd.func103 rfl (by decide) rfl ok103 (by simp [labL, lab]) ?_
  conv => cbv
  refine ⟨by decide, by rw [ofN_ hA]; decide, rfl, ?_⟩
  refine ld_row hA 0 (r := ⟨some ab, 8, 8, 5, 1, z2⟩) rfl rfl rfl (v := .int .u8 D7) (i := 7) (by show z2[7]? = _; rw [hy]; rfl) ?_
  conv => cbv
  refine ⟨[0, 1, 2, 3, 4, 5, 6, 7, 8, 9, 10, 11, 12, 13, 14, 15, 16, 17, 18, 19, 20, 21, 22, 23, 24, 25, 26, 27, 28, 29, 30, 31, 32, 33, 34, 35, 36, 37, 38, 39, 40, 41, 42, 43, 44, 45, 46], [], mix hP, by kernel_rfl, ?_⟩
  conv => cbv
  refine ⟨by decide, by rw [ofN_ hA]; decide, rfl, ?_⟩
  refine ld_row hA 0 (r := ⟨some ab, 8, 8, 5, 1, z2⟩) rfl rfl rfl (v := .int .u8 D0) (i := 0) (by show z2[0]? = _; rw [hy]; rfl) ?_
  conv => cbv
  refine ⟨by decide, by rw [ofN_ hA]; decide, rfl, ?_⟩
  refine ld_row hA 0 (r := ⟨some ab, 8, 8, 5, 1, z2⟩) rfl rfl rfl (v := .int .u8 D1) (i := 1) (by show z2[1]? = _; rw [hy]; rfl) ?_
  conv => cbv
  refine ⟨by decide, ?_⟩
  refine ⟨by decide, by rw [ofN_ hA]; decide, rfl, ?_⟩
  refine ld_row hA 0 (r := ⟨some ab, 8, 8, 5, 1, z2⟩) rfl rfl rfl (v := .int .u8 D2) (i := 2) (by show z2[2]? = _; rw [hy]; rfl) ?_
  conv => cbv
  refine ⟨by decide, ?_⟩
  refine ⟨by decide, by rw [ofN_ hA]; decide, rfl, ?_⟩
  refine ld_row hA 0 (r := ⟨some ab, 8, 8, 5, 1, z2⟩) rfl rfl rfl (v := .int .u8 D3) (i := 3) (by show z2[3]? = _; rw [hy]; rfl) ?_
  conv => cbv
  refine ⟨by decide, ?_⟩
  refine ⟨by decide, by rw [ofN_ hA]; decide, rfl, ?_⟩
  refine ld_row hA 0 (r := ⟨some ab, 8, 8, 5, 1, z2⟩) rfl rfl rfl (v := .int .u8 D4) (i := 4) (by show z2[4]? = _; rw [hy]; rfl) ?_
  conv => cbv
  refine ⟨by decide, ?_⟩
  refine ⟨by decide, by rw [ofN_ hA]; decide, rfl, ?_⟩
  refine ld_row hA 0 (r := ⟨some ab, 8, 8, 5, 1, z2⟩) rfl rfl rfl (v := .int .u8 D5) (i := 5) (by show z2[5]? = _; rw [hy]; rfl) ?_
  conv => cbv
  refine ⟨by decide, ?_⟩
  refine ⟨by decide, by rw [ofN_ hA]; decide, rfl, ?_⟩
  refine ld_row hA 0 (r := ⟨some ab, 8, 8, 5, 1, z2⟩) rfl rfl rfl (v := .int .u8 D6) (i := 6) (by show z2[6]? = _; rw [hy]; rfl) ?_
  conv => cbv
  refine ⟨by decide, ?_⟩
  refine ⟨by decide, by rw [ofN_ hA]; decide, rfl, ?_⟩
  refine ld_row hA 0 (r := ⟨some ab, 8, 8, 5, 1, z2⟩) rfl rfl rfl (v := .int .u8 D7) (i := 7) (by show z2[7]? = _; rw [hy]; rfl) ?_
  conv => cbv
  refine ⟨by decide, ?_⟩
  have hvv : (bin .or .u64 (bin .or .u64 (bin .or .u64 (bin .or .u64 (bin .or .u64 (bin .or .u64 (bin .or .u64 (cnv .u64 D0) (bin .shl .u64 (cnv .u64 D1) 8)) (bin .shl .u64 (cnv .u64 D2) 16)) (bin .shl .u64 (cnv .u64 D3) 24)) (bin .shl .u64 (cnv .u64 D4) 32)) (bin .shl .u64 (cnv .u64 D5) 40)) (bin .shl .u64 (cnv .u64 D6) 48)) (bin .shl .u64 (cnv .u64 D7) 56)) = (v : Int) := val8 hA h64 hD0 hD1 hD2 hD3 hD4 hD5 hD6 hD7
  refine br_f (by rw [hvv, cmp_lss hA]; simp; omega) ?_
  conv => cbv
  refine callP_in (fz := []) hP hA Tryd.func43 rfl (by decide) rfl ok43 (by simp [labL, lab]) ?_
  conv => cbv
  refine ⟨[0, 1, 2, 3, 4, 5, 6, 7, 8, 9], [], mix hP, by kernel_rfl, ?_⟩
  conv => cbv
  have oN : ofN N = (N : Int) := ofN_ hA N
  by_cases hq : N ≤ 9
  · refine br_t (by rw [oN, cmp_geq hA]; simp; omega) ?_
    conv => cbv
    refine callP_in (fz := []) hP hA Tryd.func44 rfl (by decide) rfl ok44 (by simp [labL, lab]) ?_
    conv => cbv
    intro ρ R'' _ _ _
    have hvl : vlen v = 9 := by rw [← hlen1, hvi]; rfl
    show Value.tuple #[.int .u64 (bin .or .u64 (bin .or .u64 (bin .or .u64 (bin .or .u64 (bin .or .u64 (bin .or .u64 (bin .or .u64 (cnv .u64 D0) (bin .shl .u64 (cnv .u64 D1) 8)) (bin .shl .u64 (cnv .u64 D2) 16)) (bin .shl .u64 (cnv .u64 D3) 24)) (bin .shl .u64 (cnv .u64 D4) 32)) (bin .shl .u64 (cnv .u64 D5) 40)) (bin .shl .u64 (cnv .u64 D6) 48)) (bin .shl .u64 (cnv .u64 D7) 56)), .int .i64 (bin .sub .i64 (ofN N) 0), .int .i64 0] = _
    have eL : bin .sub .i64 (ofN N) 0 = (vlen v : Int) := by
      rw [oN, hvl]
      rw [sub_i64 hA (by omega)]; omega
    rw [eL, hvv]
  refine br_f (by rw [oN, cmp_geq hA]; simp; omega) ?_
  conv => cbv
  refine ⟨[0, 1, 2, 3, 4, 5, 6, 7, 8, 9, 10], [], mix hP, by kernel_rfl, ?_⟩
  conv => cbv
  refine callP_in (fz := []) hP hA Tryd.func44 rfl (by decide) rfl ok44 (by simp [labL, lab]) ?_
  conv => cbv
  intro ρ R'' _ _ _
  have hvl : vlen v = 9 := by rw [← hlen1, hvi]; rfl
  show Value.tuple #[.int .u64 (bin .or .u64 (bin .or .u64 (bin .or .u64 (bin .or .u64 (bin .or .u64 (bin .or .u64 (bin .or .u64 (cnv .u64 D0) (bin .shl .u64 (cnv .u64 D1) 8)) (bin .shl .u64 (cnv .u64 D2) 16)) (bin .shl .u64 (cnv .u64 D3) 24)) (bin .shl .u64 (cnv .u64 D4) 32)) (bin .shl .u64 (cnv .u64 D5) 40)) (bin .shl .u64 (cnv .u64 D6) 48)) (bin .shl .u64 (cnv .u64 D7) 56)), .int .i64 (bin .sub .i64 (ofN N) (bin .sub .i64 (ofN N) (Int.ofNat 9))), .int .i64 0] = _
  have eL : bin .sub .i64 (ofN N) (bin .sub .i64 (ofN N) (Int.ofNat 9)) = (vlen v : Int) := by
    rw [oN, hvl]
    rw [show bin .sub .i64 (N : Int) (Int.ofNat 9) = (N : Int) - 9 from sub_i64 hA (by simp; omega), sub_i64 hA (by omega)]; omega
  rw [eL, hvv]
end Go.Proofs.YtnlpjppjhikooaaDoor.Vr
