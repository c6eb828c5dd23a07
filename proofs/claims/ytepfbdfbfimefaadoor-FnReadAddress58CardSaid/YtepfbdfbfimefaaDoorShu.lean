/- SHA-256: bytes are written to a digest. -/
import Derived.Test.YtepfbdfbfimefaaDoorMTysd
set_option linter.unusedSimpArgs false
set_option linter.unusedVariables false
namespace Go.Proofs.YtepfbdfbfimefaaDoor.Sha
open Go Go.Se Go.Proofs Go.Proofs.YtepfbdfbfimefaaDoor.Tysd

theorem ld_dg {R : RO} {rs : List Row} {fld_ : Addr → Nat → Addr} (hF : fld_ = Ar.real.fld) {D : Addr} {zs : List Value} (j : Nat) {v : Value} (h : zs[j]? = some v) {K : Value → Prop} (hk : K v) :
    LoadP R (⟨some D, 75, 75, 92, 1, zs⟩ :: rs) (fld_ D j) false 1 K :=
  ld_k (.inr ⟨_, List.mem_cons_self .., D, j, rfl, by rw [hF]; rfl, h⟩) hk

theorem fld_at {fld_ : Addr → Nat → Addr} (hF : fld_ = Ar.real.fld) (D : Addr) (j : Nat) : fld_ D j = D.add j := by rw [hF]; rfl

/-- Where a digest stands while bytes are written: k of them are taken, a slice of n is left. -/
def TI (K T : List Int) (p : Addr) (L0 N : Nat) (m : Int) (z : List Value) (a : Option Addr) (n c : Nat) : Prop :=
  ∃ (s : S8) (buf : List Int) (q r k : Nat) (ri : Int), z = dz s buf ri m ∧ buf.length = 64 ∧ ri = r ∧ L0 + k = 64 * q + r ∧ r < 64 ∧ k + n = N ∧ n ≤ c ∧ (n ≠ 0 → a = some (p.add k) ∧ r = 0) ∧ s = cmpr K q T S0 ∧
    ∀ j, j < r → buf.getD j 0 = T.getD (64 * q + j) 0

theorem andn63 (n : Nat) (h : n ≤ 9223372036854775807) : Ar.real.bin .andNot .i64 n 63 = ((64 * (n / 64) : Nat) : Int) := by
  have e : (BitVec.ofNat 64 n &&& ~~~(BitVec.ofNat 64 63)) = (BitVec.ofNat 64 n >>> 6) <<< 6 := by
    apply BitVec.eq_of_getLsbD_eq
    intro i hi
    simp only [BitVec.getLsbD_and, BitVec.getLsbD_not, BitVec.getLsbD_shiftLeft, BitVec.getLsbD_ushiftRight, BitVec.getLsbD_ofNat, hi, decide_true, Bool.true_and]
    have : Nat.testBit 63 i = decide (i < 6) := by
      rw [show (63 : Nat) = 2 ^ 6 - 1 from rfl, Nat.testBit_two_pow_sub_one]
    rw [this]
    by_cases h6 : i < 6
    · simp [h6]
    · simp [h6]
      rw [show 6 + (i - 6) = i by omega]
      simp [hi]
  have e2 : (BitVec.ofNat 64 n &&& ~~~(BitVec.ofNat 64 63)).toNat = 64 * (n / 64) := by
    rw [e, BitVec.toNat_shiftLeft, BitVec.toNat_ushiftRight, BitVec.toNat_ofNat, Nat.mod_eq_of_lt (by omega), Nat.shiftRight_eq_div_pow, Nat.shiftLeft_eq, Nat.mod_eq_of_lt (by omega)]
    omega
  show IntKind.i64.wrap (((BitVec.ofInt 64 (n : Int) &&& ~~~(BitVec.ofInt 64 63)).toNat : Nat) : Int) = _
  rw [BitVec.ofInt_natCast, show BitVec.ofInt 64 63 = BitVec.ofNat 64 63 from rfl, e2]
  exact w_i64 (by omega)

theorem src_p {fr : List (Nat × SV)} {R : RO} {hp : List (Nat × HB)} {nx : Nat} {rows : List Row} {a : Option Addr} {p : Addr} {n c : Nat} {ys : List Int} (hl : ys.length = n) (ha : n ≠ 0 → a = some p) (h : ∀ j, j < n → KCell R rows (p.add j) (.int .u8 (ys.getD j 0))) :
    SrcK ⟨fr, R, hp, nx, rows⟩ 1 (.v (.slice a n c)) n (ints .u8 ys) := by
  by_cases hn : n = 0
  · subst hn
    obtain rfl : ys = [] := List.length_eq_zero_iff.1 hl
    cases a with
    | none => exact .nil c
    | some a => exact .raw a 0 c [] rfl (fun j v hv => by simp at hv) (fun v hv => by simp at hv)
  · rw [ha hn]
    refine .raw p n c _ (by rw [ints_len, hl, Nat.mul_one]) (fun j v hv => ?_) (ints_one _ _)
    have hj : j < ys.length := by
      rcases Nat.lt_or_ge j ys.length with h | h
      · exact h
      · rw [List.getElem?_eq_none (by rw [ints_len]; exact h)] at hv; cases hv
    rw [ints_get hj] at hv
    cases hv
    exact h j (by omega)

structure Lwr where
  z : List Value
  a : Option Addr
  n : Nat
  c : Nat
  t : Int

theorem blk_step {K T bs ps : List Int} {L0 k q n : Nat} (hT : T = bs ++ ps) (hL0 : L0 = bs.length) (hq : L0 + k = 64 * q) : cmpr K n (ps.drop k) (cmpr K q T S0) = cmpr K (q + n) T S0 := by
  rw [cmpr_add K q n, hT, List.drop_append, List.drop_eq_nil_of_le (show bs.length ≤ 64 * q by omega), List.nil_append, show 64 * q - bs.length = k by omega]




set_option maxRecDepth 100000 in
set_option maxHeartbeats 8000000 in
theorem writeC {P : Program} (hP : P = Tryd.prog) (R : RO) (K : List Int) (hK : RI R .u32 (some ⟨3, 0, none⟩) 64 K) (rs : List Row) (D : Addr) (zs : List Value) (bs ps : List Int) (hd : Dg K bs zs)
    (pa : Option Addr) (p : Addr) (N Cp : Nat) (hNC : N ≤ Cp) (hps : ps.length = N) (hN : bs.length + N ≤ 1099511627776) (hpa : N ≠ 0 → pa = some p) (hp : ∀ j, j < N → KCell R rs (p.add j) (.int .u8 (ps.getD j 0)))
    {K' : RO → List (Nat × HB) → Nat → List Row → SV → Prop}
    (hg : ∀ zs', Dg K (bs ++ ps) zs' → K' R [] 0 (⟨some D, 75, 75, 92, 1, zs'⟩ :: rs) (.tu [.v (.int .i64 N), .v .nilIface])) :
    CallP P 81 [.v (.pointer (some D)), .v (.slice pa N Cp)] R [] 0 (⟨some D, 75, 75, 92, 1, zs⟩ :: rs) K' := by
  subst hP
  refine callP_of_vc (fz := []) Tryd.func81 rfl (by decide) (Nat.le_of_ble_eq_true rfl) ok81 (by simp [labL, lab]) ?_
  rintro P ⟨bin, cmp, cnv, neg, com, bnot, beq, ofN, toN, at_, sub_, scmp, cat, sget, ssz, ssub, elem, fld_⟩ hP hA
  obtain ⟨T, hT⟩ : ∃ T, T = bs ++ ps := ⟨_, rfl⟩
  obtain ⟨L0, hL0⟩ : ∃ L0, L0 = bs.length := ⟨_, rfl⟩
  have hd := hd.t ps
  rw [← hT, ← hL0] at hd
  obtain ⟨s, buf, q, r, hz, hb, hqr, hr, hqT, hs, hbuf⟩ := hd
  obtain ⟨ri, hri⟩ : ∃ ri : Int, ri = r := ⟨_, rfl⟩
  obtain ⟨mi, hmi⟩ : ∃ mi : Int, mi = L0 := ⟨_, rfl⟩
  rw [← hri, ← hmi] at hz
  have hz : zs = dz s buf ri mi := hz
  have hTl : T.length = L0 + N := by rw [hT, List.length_append, hps, hL0]
  have hNN : (bs ++ ps).length = L0 + N := by rw [← hT, hTl]
  have hg' : ∀ zs', Dg K (bs ++ ps) zs' → K' R [] 0 (⟨some D, 75, 75, 92, 1, zs'⟩ :: rs) (.tu [.v (.int .i64 (ofN N)), .v .nilIface]) := by
    rw [ofN_ hA]
    exact hg
  conv => cbv
  refine ld_dg (fld__is hA) 73 (v := .int .u64 mi) (by rw [hz]; exact dz_73 s buf hb ri mi) ?_
  conv => cbv
  obtain ⟨m1, hm1⟩ : ∃ m1, m1 = bin .add .u64 mi (cnv .u64 (ofN N)) := ⟨_, rfl⟩
  simp (maxSteps := 10000000) only [← hm1]
  have hm1 : m1 = ((L0 + N : Nat) : Int) := by
    rw [hm1, hmi, ofN_ hA, cnv_u64 hA (by omega), add_u64 hA (by omega)]
    omega
  refine ⟨0, _, D, 73, rfl, rfl, fld_at (fld__is hA) D 73, by show 73 + 1 ≤ _; rw [hz, dz_len s buf hb]; omega, ?_⟩
  intro z1 hz1
  have hz1 : z1 = dz s buf ri m1 := by rw [hz1, ← dz_s73 s buf hb ri mi, hz]; rfl
  conv => cbv
  refine ld_dg (fld__is hA) 72 (v := .int .i64 ri) (by rw [hz1]; exact dz_72 s buf hb ri m1) ?_
  conv => cbv
  by_cases hr0 : r = 0
  · refine br_f (by rw [cmp_gtr hA]; simp; omega) ?_
    conv => cbv
    have hti : TI K T p L0 N m1 z1 pa N Cp := ⟨s, buf, q, r, 0, ri, hz1, hb, hri, by omega, hr, by omega, hNC, fun h => ⟨by rw [hpa h]; simp [Addr.add], hr0⟩, hs, hbuf⟩
    by_cases hbig : 64 ≤ N
    · refine br_t (by rw [ofN_ hA, cmp_geq hA]; simp; omega) ?_
      conv => cbv
      obtain ⟨tt, htt⟩ : ∃ tt, tt = bin .andNot .i64 (ofN N) 63 := ⟨_, rfl⟩
      simp (maxSteps := 10000000) only [← htt]
      have hNT : N ≤ N := by obtain ⟨_, _, _, _, _, _, _, _, _, _, _, h, _⟩ := hti; omega
      have htt : tt = ((64 * (N / 64) : Nat) : Int) := by rw [htt, bin_is hA, ofN_ hA, andn63 N (by omega)]
      refine ⟨Lwr, fun x => ⟨[(7, .v (.int .i64 x.t)), (1, .v (.slice x.a x.n x.c)), (0, .v (.pointer (some D))), (4, .v (.int .i64 (ofN N))), (5, .v .nilIface)], R, [], 0, ⟨some D, 75, 75, 92, 1, x.z⟩ :: rs⟩,
        fun mm x => TI K T p L0 N m1 x.z x.a x.n x.c ∧ 64 ≤ x.n ∧ x.t = ((64 * (x.n / 64) : Nat) : Int) ∧ mm = x.n,
        ⟨N, ⟨z1, pa, N, Cp, tt⟩, ⟨⟨rfl, rfl, rfl, rfl, rfl, trivial⟩, rfl, trivial, rfl, .refl _⟩, hti, hbig, htt, rfl⟩, ?_⟩
      rintro mm ⟨zL, aL, nL, cL, tL⟩ ⟨hti, hn64, htL, hmm⟩
      simp only at hti hn64 htL hmm
      conv => cbv
      obtain ⟨sT, bT, qT, rT, kT, riT, hzT, hbT, hri, hqT, hrT, hkN, hnc, hpT, hsT, hbufT⟩ := hti
      obtain ⟨haT, rfl⟩ := hpT (by omega)
      subst haT
      have hkc : ∀ j, j < nL → KCell R rs ((p.add kT).add j) (.int .u8 ((ps.drop kT).getD j 0)) := fun j hj => by
        rw [add_add', getD_drop]
        exact hp (kT + j) (by omega)
      by_cases hgt : 65536 < 64 * (nL / 64)
      · refine br_t (by rw [cmp_gtr hA]; simp; omega) ?_
        conv => cbv
        refine ⟨0, 65536, rfl, rfl, by omega, by omega, ?_⟩
        intro a1 n1 c1 hn1 hc1 ha1
        obtain rfl : a1 = some (p.add kT) := by rw [ha1]; simp [Addr.add]
        conv => cbv
        refine blockD hP R K hK rs D zL sT bT riT m1 hzT (p.add kT) n1 c1 1024 (by omega) (by omega) (by omega) (ps.drop kT) (fun j hj => kc_mono (hkc j (by omega)) (fun r h => List.mem_cons_of_mem _ h)) ?_
        intro z2 hz2
        conv => cbv
        refine ⟨65536, nL, rfl, rfl, by omega, by omega, ?_⟩
        intro a2 n2 c2 hn2 hc2 ha2
        conv => cbv
        have et : bin .sub .i64 tL 65536 = ((64 * (n2 / 64) : Nat) : Int) := by rw [sub_i64 hA (by omega)]; omega
        refine ⟨n2, ⟨z2, a2, n2, c2, bin .sub .i64 tL 65536⟩, by omega, ⟨⟨rfl, rfl, rfl, rfl, rfl, trivial⟩, rfl, trivial, rfl, .refl _⟩, ⟨_, bT, qT + 1024, 0, kT + 65536, riT, hz2, hbT, hri, by omega, by omega, by show kT + 65536 + n2 = N; omega, by show n2 ≤ c2; omega, fun h => ⟨?_, rfl⟩, ?_, fun j hj => absurd hj (Nat.not_lt_zero j)⟩, by show 64 ≤ n2; omega, et, rfl⟩
        · have ha2 : a2 = some ((p.add kT).add (65536 * 1)) := by rw [ha2, if_neg (by omega)]; rfl
          rw [add_add'] at ha2
          exact ha2
        · rw [hsT, blk_step hT hL0 (by omega)]
      · refine br_f (by rw [cmp_gtr hA]; simp; omega) ?_
        conv => cbv
        refine ⟨0, 64 * (nL / 64), rfl, htL.symm, by omega, by omega, ?_⟩
        intro a1 n1 c1 hn1 hc1 ha1
        obtain rfl : a1 = some (p.add kT) := by rw [ha1]; simp [Addr.add]
        conv => cbv
        refine blockD hP R K hK rs D zL sT bT riT m1 hzT (p.add kT) n1 c1 (nL / 64) (by omega) (by omega) (by omega) (ps.drop kT) (fun j hj => kc_mono (hkc j (by omega)) (fun r h => List.mem_cons_of_mem _ h)) ?_
        intro z2 hz2
        conv => cbv
        refine ⟨64 * (nL / 64), nL, htL.symm, rfl, by omega, by omega, ?_⟩
        intro a2 n2 c2 hn2 hc2 ha2
        conv => cbv
        have ha2' : n2 ≠ 0 → a2 = some (p.add (kT + 64 * (nL / 64))) := fun h => by
          have h2 : a2 = some ((p.add kT).add (64 * (nL / 64) * 1)) := by rw [ha2, if_neg (by omega)]; rfl
          rw [add_add', Nat.mul_one] at h2
          exact h2
        have hti : TI K T p L0 N m1 z2 a2 n2 c2 := ⟨_, bT, qT + nL / 64, 0, kT + 64 * (nL / 64), riT, hz2, hbT, hri, by omega, by omega, by omega, by omega, fun h => ⟨ha2' h, rfl⟩, by rw [hsT, blk_step hT hL0 (by omega)], fun j hj => absurd hj (Nat.not_lt_zero j)⟩
        clear hzT hbT hri hqT hrT hkN hsT hbufT
        obtain ⟨sT, bT, qT, rT, kT, riT, hzT, hbT, hri, hqT, hrT, hkN, hnc, hpT, hsT, hbufT⟩ := hti
        have on := ofN_ hA n2
        by_cases hn0 : n2 = 0
        · refine br_f (by rw [on, cmp_gtr hA]; simp; omega) ?_
          conv => cbv
          have hqT : L0 + N = 64 * qT + rT := by omega
          refine hg' _ ?_
          refine ⟨sT, bT, qT, rT, ?_, hbT, ?_, hrT, Nat.le_refl _, ?_, ?_⟩
          · rw [hzT, hri, hm1, hNN]
            rfl
          · rw [List.length_append, hps, ← hL0]
            omega
          · rw [hsT, hT]
          · rw [hT] at hbufT
            exact hbufT
        · refine br_t (by rw [on, cmp_gtr hA]; simp; omega) ?_
          conv => cbv
          obtain ⟨haT, rfl⟩ := hpT hn0
          refine ⟨n2, _, src_p (ys := (ps.drop kT).take n2) (by rw [List.length_take, List.length_drop]; omega) (p := p.add kT) (fun _ => haT) (fun j hj => ?_), .inr ⟨0, _, D, 8, _, rfl, rfl, rfl, fld_at (fld__is hA) D 8, ?_, ?_⟩⟩
          · have := hp (kT + j) (by omega)
            rw [add_add']
            refine kc_mono ?_ (fun r h => List.mem_cons_of_mem _ h)
            rw [List.getD_eq_getElem?_getD, List.getElem?_take_of_lt hj, List.getElem?_drop, ← List.getD_eq_getElem?_getD]
            exact this
          · show 8 + min n2 64 * 1 ≤ (z2).length
            rw [hzT, dz_len _ _ hbT]
            omega
          intro nc zc hnc2 hzc
          have hnc2 : nc = n2 := by omega
          have hzc : zc = dz sT ((ps.drop kT).take n2 ++ bT.drop n2) riT m1 := by
            have h1 := dz_cp sT bT hbT riT m1 ((ps.drop kT).take n2) 0 (by rw [List.length_take, List.length_drop]; omega)
            rw [List.length_take, List.length_drop, Nat.min_eq_left (by omega), Nat.zero_add, List.take_zero, List.nil_append] at h1
            rw [hzc, ← h1, hzT, hnc2, Nat.mul_one]
            simp only [List.take_of_length_le (show (ints .u8 ((ps.drop kT).take n2)).length ≤ n2 by rw [ints_len, List.length_take]; omega)]
          have hbc : ((ps.drop kT).take n2 ++ bT.drop n2).length = 64 := by
            rw [List.length_append, List.length_take, List.length_drop, List.length_drop]
            omega
          conv => cbv
          refine ⟨0, _, D, 72, rfl, rfl, fld_at (fld__is hA) D 72, by show 72 + 1 ≤ zc.length; rw [hzc, dz_len _ _ hbc]; omega, ?_⟩
          intro ze hze
          have hze : ze = dz sT ((ps.drop kT).take n2 ++ bT.drop n2) (ofN nc) m1 := by rw [hze, ← dz_s72 _ _ hbc riT m1, hzc]; rfl
          conv => cbv
          refine hg' _ ?_
          refine ⟨sT, _, qT, n2, ?_, hbc, ?_, by omega, Nat.le_refl _, ?_, ?_⟩
          · rw [hze, hnc2, ofN_ hA, hm1, hNN]
            rfl
          · rw [List.length_append, hps, ← hL0]
            omega
          · rw [hsT, hT]
          · intro j hj
            rw [List.getD_eq_getElem?_getD, List.getElem?_append_left (by rw [List.length_take, List.length_drop]; omega), List.getElem?_take_of_lt hj, List.getElem?_drop, List.getD_eq_getElem?_getD, List.getElem?_append_right (by omega), show 64 * qT + j - bs.length = kT + j by omega]
    · refine br_f (by rw [ofN_ hA, cmp_geq hA]; simp; omega) ?_
      conv => cbv
      have hn64' : N < 64 := by omega
      obtain ⟨sT, bT, qT, rT, kT, riT, hzT, hbT, hri, hqT, hrT, hkN, hnc, hpT, hsT, hbufT⟩ := hti
      have on := ofN_ hA N
      by_cases hn0 : N = 0
      · refine br_f (by rw [on, cmp_gtr hA]; simp; omega) ?_
        conv => cbv
        have hqT : L0 + N = 64 * qT + rT := by omega
        refine hg' _ ?_
        refine ⟨sT, bT, qT, rT, ?_, hbT, ?_, hrT, Nat.le_refl _, ?_, ?_⟩
        · rw [hzT, hri, hm1, hNN]
          rfl
        · rw [List.length_append, hps, ← hL0]
          omega
        · rw [hsT, hT]
        · rw [hT] at hbufT
          exact hbufT
      · refine br_t (by rw [on, cmp_gtr hA]; simp; omega) ?_
        conv => cbv
        obtain ⟨haT, rfl⟩ := hpT hn0
        refine ⟨N, _, src_p (ys := (ps.drop kT).take N) (by rw [List.length_take, List.length_drop]; omega) (p := p.add kT) (fun _ => haT) (fun j hj => ?_), .inr ⟨0, _, D, 8, _, rfl, rfl, rfl, fld_at (fld__is hA) D 8, ?_, ?_⟩⟩
        · have := hp (kT + j) (by omega)
          rw [add_add']
          refine kc_mono ?_ (fun r h => List.mem_cons_of_mem _ h)
          rw [List.getD_eq_getElem?_getD, List.getElem?_take_of_lt hj, List.getElem?_drop, ← List.getD_eq_getElem?_getD]
          exact this
        · show 8 + min N 64 * 1 ≤ (z1).length
          rw [hzT, dz_len _ _ hbT]
          omega
        intro nc zc hnc2 hzc
        have hnc2 : nc = N := by omega
        have hzc : zc = dz sT ((ps.drop kT).take N ++ bT.drop N) riT m1 := by
          have h1 := dz_cp sT bT hbT riT m1 ((ps.drop kT).take N) 0 (by rw [List.length_take, List.length_drop]; omega)
          rw [List.length_take, List.length_drop, Nat.min_eq_left (by omega), Nat.zero_add, List.take_zero, List.nil_append] at h1
          rw [hzc, ← h1, hzT, hnc2, Nat.mul_one]
          simp only [List.take_of_length_le (show (ints .u8 ((ps.drop kT).take N)).length ≤ N by rw [ints_len, List.length_take]; omega)]
        have hbc : ((ps.drop kT).take N ++ bT.drop N).length = 64 := by
          rw [List.length_append, List.length_take, List.length_drop, List.length_drop]
          omega
        conv => cbv
        refine ⟨0, _, D, 72, rfl, rfl, fld_at (fld__is hA) D 72, by show 72 + 1 ≤ zc.length; rw [hzc, dz_len _ _ hbc]; omega, ?_⟩
        intro ze hze
        have hze : ze = dz sT ((ps.drop kT).take N ++ bT.drop N) (ofN nc) m1 := by rw [hze, ← dz_s72 _ _ hbc riT m1, hzc]; rfl
        conv => cbv
        refine hg' _ ?_
        refine ⟨sT, _, qT, N, ?_, hbc, ?_, by omega, Nat.le_refl _, ?_, ?_⟩
        · rw [hze, hnc2, ofN_ hA, hm1, hNN]
          rfl
        · rw [List.length_append, hps, ← hL0]
          omega
        · rw [hsT, hT]
        · intro j hj
          rw [List.getD_eq_getElem?_getD, List.getElem?_append_left (by rw [List.length_take, List.length_drop]; omega), List.getElem?_take_of_lt hj, List.getElem?_drop, List.getD_eq_getElem?_getD, List.getElem?_append_right (by omega), show 64 * qT + j - bs.length = kT + j by omega]
  refine br_t (by rw [cmp_gtr hA]; simp; omega) ?_
  conv => cbv
  refine ⟨[0, 1, 2, 3, 4, 5, 6, 7, 8, 9, 10], [9], mix hP, by decide +kernel, ?_⟩
  conv => cbv
  refine ld_dg (fld__is hA) 72 (v := .int .i64 ri) (by rw [hz1]; exact dz_72 s buf hb ri m1) ?_
  conv => cbv
  refine raw_slice_arr r 64 rfl rfl (.inr ⟨_, _, _, rfl, rfl, hri⟩) (.inl ⟨rfl, rfl⟩) (by omega) (by omega) (by rw [hP]; exact ty90) rfl (by rw [hP]; exact ty5) rfl ?_
  intro ad md cd hmd hcd had
  have had := had hr
  rw [fld__is hA] at had
  have had : ad = D.add (8 + r) := by rw [had]; show (D.add 8).add r = _; rw [add_add']
  conv => cbv
  refine ⟨N, _, src_p (ys := ps) hps hpa (fun j hj => kc_mono (hp j hj) (fun r h => List.mem_cons_of_mem _ h)), .inr ⟨0, _, D, 8 + r, _, rfl, rfl, rfl, had, by show 8 + r + min N md * 1 ≤ z1.length; rw [hz1, dz_len _ _ hb]; omega, ?_⟩⟩
  intro nc zc hnc hzc
  obtain ⟨bc, hbc⟩ : ∃ bc, bc = buf.take r ++ ps.take nc ++ buf.drop (r + nc) := ⟨_, rfl⟩
  have hbl : bc.length = 64 := by
    rw [hbc]
    simp only [List.length_append, List.length_take, List.length_drop]
    omega
  have hzc : zc = dz s bc ri m1 := by
    have h1 := dz_cp s buf hb ri m1 (ps.take nc) r (by rw [List.length_take]; omega)
    rw [List.length_take, Nat.min_eq_left (by omega), ← hbc, ← hz1] at h1
    rw [← h1, hzc, Nat.mul_one]
    simp only [ints, List.map_take]
  conv => cbv
  refine ld_dg (fld__is hA) 72 (v := .int .i64 ri) (by rw [hzc]; exact dz_72 s bc hbl ri m1) ?_
  conv => cbv
  obtain ⟨r1, hr1⟩ : ∃ r1, r1 = bin .add .i64 ri (ofN nc) := ⟨_, rfl⟩
  simp (maxSteps := 10000000) only [← hr1]
  have hr1 : r1 = ((r + nc : Nat) : Int) := by rw [hr1, hri, ofN_ hA, add_i64 hA (by omega)]; omega
  refine ⟨0, _, D, 72, rfl, rfl, fld_at (fld__is hA) D 72, by show 72 + 1 ≤ zc.length; rw [hzc, dz_len _ _ hbl]; omega, ?_⟩
  intro z2 hz2
  have hz2 : z2 = dz s bc r1 m1 := by rw [hz2, ← dz_s72 _ _ hbl ri m1, hzc]; rfl
  have hbg : ∀ j, j < r + nc → bc.getD j 0 = T.getD (64 * q + j) 0 := fun j hj => by
    rw [hbc, List.append_assoc]
    by_cases h : j < r
    · rw [List.getD_eq_getElem?_getD, List.getElem?_append_left (by rw [List.length_take]; omega), List.getElem?_take_of_lt h, ← List.getD_eq_getElem?_getD, hbuf j h]
    · rw [List.getD_eq_getElem?_getD, List.getElem?_append_right (by rw [List.length_take]; omega), List.length_take, Nat.min_eq_left (by omega), List.getElem?_append_left (by rw [List.length_take]; omega), List.getElem?_take_of_lt (by omega), hT, List.getD_eq_getElem?_getD, List.getElem?_append_right (by omega),
        show 64 * q + j - bs.length = j - r by omega]
  conv => cbv
  refine ld_dg (fld__is hA) 72 (v := .int .i64 r1) (by rw [hz2]; exact dz_72 s bc hbl r1 m1) ?_
  conv => cbv
  by_cases hfull : r + nc = 64
  · refine br_t (by rw [cmp_eql hA, hr1, hfull]; rfl) ?_
    conv => cbv
    have efl : fld_ D 8 = D.add 8 := fld_at (fld__is hA) D 8
    simp (maxSteps := 10000000) only [efl]
    refine blockD hP R K hK rs D z2 s bc r1 m1 hz2 (D.add 8) 64 64 1 (by omega) (by omega) (by omega) bc (fun j hj => .inr ⟨_, List.mem_cons_self .., D, 8 + j, rfl, add_add' D 8 j, by show z2[8 + j]? = _; rw [hz2]; exact dz_x s bc hbl r1 m1 j hj⟩) ?_
    intro z3 hz3
    conv => cbv
    refine ⟨0, _, D, 72, rfl, rfl, fld_at (fld__is hA) D 72, by show 72 + 1 ≤ z3.length; rw [hz3, dz_len _ _ hbl]; omega, ?_⟩
    intro z4 hz4
    have hz4 : z4 = dz (cmpr K 1 bc s) bc 0 m1 := by rw [hz4, ← dz_s72 _ _ hbl r1 m1, hz3]; rfl
    conv => cbv
    refine ⟨nc, N, (ofN_ hA nc).symm, rfl, by omega, by omega, ?_⟩
    intro a2 n2 c2 hn2 hc2 ha2
    conv => cbv
    have hti : TI K T p L0 N m1 z4 a2 n2 c2 := ⟨_, bc, q + 1, 0, nc, 0, hz4, hbl, rfl, by omega, by omega, by omega, by omega, fun h => ⟨by rw [ha2, if_neg (by omega), hpa (by omega), Nat.mul_one]; rfl, rfl⟩, by
      rw [cmpr_ext K 1 bc (T.drop (64 * q)) s (fun j hj => by rw [getD_drop]; exact hbg j (by omega)), hs, cmpr_add], fun j hj => absurd hj (Nat.not_lt_zero j)⟩
    clear hqr hr hqT hs hbuf hri
    by_cases hbig : 64 ≤ n2
    · refine br_t (by rw [ofN_ hA, cmp_geq hA]; simp; omega) ?_
      conv => cbv
      obtain ⟨tt, htt⟩ : ∃ tt, tt = bin .andNot .i64 (ofN n2) 63 := ⟨_, rfl⟩
      simp (maxSteps := 10000000) only [← htt]
      have hNT : n2 ≤ N := by obtain ⟨_, _, _, _, _, _, _, _, _, _, _, h, _⟩ := hti; omega
      have htt : tt = ((64 * (n2 / 64) : Nat) : Int) := by rw [htt, bin_is hA, ofN_ hA, andn63 n2 (by omega)]
      refine ⟨Lwr, fun x => ⟨[(7, .v (.int .i64 x.t)), (1, .v (.slice x.a x.n x.c)), (0, .v (.pointer (some D))), (4, .v (.int .i64 (ofN N))), (5, .v .nilIface)], R, [], 0, ⟨some D, 75, 75, 92, 1, x.z⟩ :: rs⟩,
        fun mm x => TI K T p L0 N m1 x.z x.a x.n x.c ∧ 64 ≤ x.n ∧ x.t = ((64 * (x.n / 64) : Nat) : Int) ∧ mm = x.n,
        ⟨n2, ⟨z4, a2, n2, c2, tt⟩, ⟨⟨rfl, rfl, rfl, rfl, rfl, trivial⟩, rfl, trivial, rfl, .refl _⟩, hti, hbig, htt, rfl⟩, ?_⟩
      rintro mm ⟨zL, aL, nL, cL, tL⟩ ⟨hti, hn64, htL, hmm⟩
      simp only at hti hn64 htL hmm
      conv => cbv
      obtain ⟨sT, bT, qT, rT, kT, riT, hzT, hbT, hri, hqT, hrT, hkN, hnc, hpT, hsT, hbufT⟩ := hti
      obtain ⟨haT, rfl⟩ := hpT (by omega)
      subst haT
      have hkc : ∀ j, j < nL → KCell R rs ((p.add kT).add j) (.int .u8 ((ps.drop kT).getD j 0)) := fun j hj => by
        rw [add_add', getD_drop]
        exact hp (kT + j) (by omega)
      by_cases hgt : 65536 < 64 * (nL / 64)
      · refine br_t (by rw [cmp_gtr hA]; simp; omega) ?_
        conv => cbv
        refine ⟨0, 65536, rfl, rfl, by omega, by omega, ?_⟩
        intro a1 n1 c1 hn1 hc1 ha1
        obtain rfl : a1 = some (p.add kT) := by rw [ha1]; simp [Addr.add]
        conv => cbv
        refine blockD hP R K hK rs D zL sT bT riT m1 hzT (p.add kT) n1 c1 1024 (by omega) (by omega) (by omega) (ps.drop kT) (fun j hj => kc_mono (hkc j (by omega)) (fun r h => List.mem_cons_of_mem _ h)) ?_
        intro z2 hz2
        conv => cbv
        refine ⟨65536, nL, rfl, rfl, by omega, by omega, ?_⟩
        intro a2 n2 c2 hn2 hc2 ha2
        conv => cbv
        have et : bin .sub .i64 tL 65536 = ((64 * (n2 / 64) : Nat) : Int) := by rw [sub_i64 hA (by omega)]; omega
        refine ⟨n2, ⟨z2, a2, n2, c2, bin .sub .i64 tL 65536⟩, by omega, ⟨⟨rfl, rfl, rfl, rfl, rfl, trivial⟩, rfl, trivial, rfl, .refl _⟩, ⟨_, bT, qT + 1024, 0, kT + 65536, riT, hz2, hbT, hri, by omega, by omega, by show kT + 65536 + n2 = N; omega, by show n2 ≤ c2; omega, fun h => ⟨?_, rfl⟩, ?_, fun j hj => absurd hj (Nat.not_lt_zero j)⟩, by show 64 ≤ n2; omega, et, rfl⟩
        · have ha2 : a2 = some ((p.add kT).add (65536 * 1)) := by rw [ha2, if_neg (by omega)]; rfl
          rw [add_add'] at ha2
          exact ha2
        · rw [hsT, blk_step hT hL0 (by omega)]
      · refine br_f (by rw [cmp_gtr hA]; simp; omega) ?_
        conv => cbv
        refine ⟨0, 64 * (nL / 64), rfl, htL.symm, by omega, by omega, ?_⟩
        intro a1 n1 c1 hn1 hc1 ha1
        obtain rfl : a1 = some (p.add kT) := by rw [ha1]; simp [Addr.add]
        conv => cbv
        refine blockD hP R K hK rs D zL sT bT riT m1 hzT (p.add kT) n1 c1 (nL / 64) (by omega) (by omega) (by omega) (ps.drop kT) (fun j hj => kc_mono (hkc j (by omega)) (fun r h => List.mem_cons_of_mem _ h)) ?_
        intro z2 hz2
        conv => cbv
        refine ⟨64 * (nL / 64), nL, htL.symm, rfl, by omega, by omega, ?_⟩
        intro a2 n2 c2 hn2 hc2 ha2
        conv => cbv
        have ha2' : n2 ≠ 0 → a2 = some (p.add (kT + 64 * (nL / 64))) := fun h => by
          have h2 : a2 = some ((p.add kT).add (64 * (nL / 64) * 1)) := by rw [ha2, if_neg (by omega)]; rfl
          rw [add_add', Nat.mul_one] at h2
          exact h2
        have hti : TI K T p L0 N m1 z2 a2 n2 c2 := ⟨_, bT, qT + nL / 64, 0, kT + 64 * (nL / 64), riT, hz2, hbT, hri, by omega, by omega, by omega, by omega, fun h => ⟨ha2' h, rfl⟩, by rw [hsT, blk_step hT hL0 (by omega)], fun j hj => absurd hj (Nat.not_lt_zero j)⟩
        clear hzT hbT hri hqT hrT hkN hsT hbufT
        obtain ⟨sT, bT, qT, rT, kT, riT, hzT, hbT, hri, hqT, hrT, hkN, hnc, hpT, hsT, hbufT⟩ := hti
        have on := ofN_ hA n2
        by_cases hn0 : n2 = 0
        · refine br_f (by rw [on, cmp_gtr hA]; simp; omega) ?_
          conv => cbv
          have hqT : L0 + N = 64 * qT + rT := by omega
          refine hg' _ ?_
          refine ⟨sT, bT, qT, rT, ?_, hbT, ?_, hrT, Nat.le_refl _, ?_, ?_⟩
          · rw [hzT, hri, hm1, hNN]
            rfl
          · rw [List.length_append, hps, ← hL0]
            omega
          · rw [hsT, hT]
          · rw [hT] at hbufT
            exact hbufT
        · refine br_t (by rw [on, cmp_gtr hA]; simp; omega) ?_
          conv => cbv
          obtain ⟨haT, rfl⟩ := hpT hn0
          refine ⟨n2, _, src_p (ys := (ps.drop kT).take n2) (by rw [List.length_take, List.length_drop]; omega) (p := p.add kT) (fun _ => haT) (fun j hj => ?_), .inr ⟨0, _, D, 8, _, rfl, rfl, rfl, fld_at (fld__is hA) D 8, ?_, ?_⟩⟩
          · have := hp (kT + j) (by omega)
            rw [add_add']
            refine kc_mono ?_ (fun r h => List.mem_cons_of_mem _ h)
            rw [List.getD_eq_getElem?_getD, List.getElem?_take_of_lt hj, List.getElem?_drop, ← List.getD_eq_getElem?_getD]
            exact this
          · show 8 + min n2 64 * 1 ≤ (z2).length
            rw [hzT, dz_len _ _ hbT]
            omega
          intro nc zc hnc2 hzc
          have hnc2 : nc = n2 := by omega
          have hzc : zc = dz sT ((ps.drop kT).take n2 ++ bT.drop n2) riT m1 := by
            have h1 := dz_cp sT bT hbT riT m1 ((ps.drop kT).take n2) 0 (by rw [List.length_take, List.length_drop]; omega)
            rw [List.length_take, List.length_drop, Nat.min_eq_left (by omega), Nat.zero_add, List.take_zero, List.nil_append] at h1
            rw [hzc, ← h1, hzT, hnc2, Nat.mul_one]
            simp only [List.take_of_length_le (show (ints .u8 ((ps.drop kT).take n2)).length ≤ n2 by rw [ints_len, List.length_take]; omega)]
          have hbc : ((ps.drop kT).take n2 ++ bT.drop n2).length = 64 := by
            rw [List.length_append, List.length_take, List.length_drop, List.length_drop]
            omega
          conv => cbv
          refine ⟨0, _, D, 72, rfl, rfl, fld_at (fld__is hA) D 72, by show 72 + 1 ≤ zc.length; rw [hzc, dz_len _ _ hbc]; omega, ?_⟩
          intro ze hze
          have hze : ze = dz sT ((ps.drop kT).take n2 ++ bT.drop n2) (ofN nc) m1 := by rw [hze, ← dz_s72 _ _ hbc riT m1, hzc]; rfl
          conv => cbv
          refine hg' _ ?_
          refine ⟨sT, _, qT, n2, ?_, hbc, ?_, by omega, Nat.le_refl _, ?_, ?_⟩
          · rw [hze, hnc2, ofN_ hA, hm1, hNN]
            rfl
          · rw [List.length_append, hps, ← hL0]
            omega
          · rw [hsT, hT]
          · intro j hj
            rw [List.getD_eq_getElem?_getD, List.getElem?_append_left (by rw [List.length_take, List.length_drop]; omega), List.getElem?_take_of_lt hj, List.getElem?_drop, List.getD_eq_getElem?_getD, List.getElem?_append_right (by omega), show 64 * qT + j - bs.length = kT + j by omega]
    · refine br_f (by rw [ofN_ hA, cmp_geq hA]; simp; omega) ?_
      conv => cbv
      have hn64' : n2 < 64 := by omega
      obtain ⟨sT, bT, qT, rT, kT, riT, hzT, hbT, hri, hqT, hrT, hkN, hnc, hpT, hsT, hbufT⟩ := hti
      have on := ofN_ hA n2
      by_cases hn0 : n2 = 0
      · refine br_f (by rw [on, cmp_gtr hA]; simp; omega) ?_
        conv => cbv
        have hqT : L0 + N = 64 * qT + rT := by omega
        refine hg' _ ?_
        refine ⟨sT, bT, qT, rT, ?_, hbT, ?_, hrT, Nat.le_refl _, ?_, ?_⟩
        · rw [hzT, hri, hm1, hNN]
          rfl
        · rw [List.length_append, hps, ← hL0]
          omega
        · rw [hsT, hT]
        · rw [hT] at hbufT
          exact hbufT
      · refine br_t (by rw [on, cmp_gtr hA]; simp; omega) ?_
        conv => cbv
        obtain ⟨haT, rfl⟩ := hpT hn0
        refine ⟨n2, _, src_p (ys := (ps.drop kT).take n2) (by rw [List.length_take, List.length_drop]; omega) (p := p.add kT) (fun _ => haT) (fun j hj => ?_), .inr ⟨0, _, D, 8, _, rfl, rfl, rfl, fld_at (fld__is hA) D 8, ?_, ?_⟩⟩
        · have := hp (kT + j) (by omega)
          rw [add_add']
          refine kc_mono ?_ (fun r h => List.mem_cons_of_mem _ h)
          rw [List.getD_eq_getElem?_getD, List.getElem?_take_of_lt hj, List.getElem?_drop, ← List.getD_eq_getElem?_getD]
          exact this
        · show 8 + min n2 64 * 1 ≤ (z4).length
          rw [hzT, dz_len _ _ hbT]
          omega
        intro nc zc hnc2 hzc
        have hnc2 : nc = n2 := by omega
        have hzc : zc = dz sT ((ps.drop kT).take n2 ++ bT.drop n2) riT m1 := by
          have h1 := dz_cp sT bT hbT riT m1 ((ps.drop kT).take n2) 0 (by rw [List.length_take, List.length_drop]; omega)
          rw [List.length_take, List.length_drop, Nat.min_eq_left (by omega), Nat.zero_add, List.take_zero, List.nil_append] at h1
          rw [hzc, ← h1, hzT, hnc2, Nat.mul_one]
          simp only [List.take_of_length_le (show (ints .u8 ((ps.drop kT).take n2)).length ≤ n2 by rw [ints_len, List.length_take]; omega)]
        have hbc : ((ps.drop kT).take n2 ++ bT.drop n2).length = 64 := by
          rw [List.length_append, List.length_take, List.length_drop, List.length_drop]
          omega
        conv => cbv
        refine ⟨0, _, D, 72, rfl, rfl, fld_at (fld__is hA) D 72, by show 72 + 1 ≤ zc.length; rw [hzc, dz_len _ _ hbc]; omega, ?_⟩
        intro ze hze
        have hze : ze = dz sT ((ps.drop kT).take n2 ++ bT.drop n2) (ofN nc) m1 := by rw [hze, ← dz_s72 _ _ hbc riT m1, hzc]; rfl
        conv => cbv
        refine hg' _ ?_
        refine ⟨sT, _, qT, n2, ?_, hbc, ?_, by omega, Nat.le_refl _, ?_, ?_⟩
        · rw [hze, hnc2, ofN_ hA, hm1, hNN]
          rfl
        · rw [List.length_append, hps, ← hL0]
          omega
        · rw [hsT, hT]
        · intro j hj
          rw [List.getD_eq_getElem?_getD, List.getElem?_append_left (by rw [List.length_take, List.length_drop]; omega), List.getElem?_take_of_lt hj, List.getElem?_drop, List.getD_eq_getElem?_getD, List.getElem?_append_right (by omega), show 64 * qT + j - bs.length = kT + j by omega]
  · refine br_f (by rw [cmp_eql hA, hr1]; exact beq_false_of_ne fun e => hfull (by omega)) ?_
    conv => cbv
    refine ⟨nc, N, (ofN_ hA nc).symm, rfl, by omega, by omega, ?_⟩
    intro a2 n2 c2 hn2 hc2 ha2
    conv => cbv
    have hti : TI K T p L0 N m1 z2 a2 n2 c2 := ⟨s, bc, q, r + nc, nc, r1, hz2, hbl, hr1, by omega, by omega, by omega, by omega, fun h => absurd hn2 (by omega), hs, hbg⟩
    clear hqr hr hqT hs hbuf hri
    by_cases hbig : 64 ≤ n2
    · refine br_t (by rw [ofN_ hA, cmp_geq hA]; simp; omega) ?_
      conv => cbv
      obtain ⟨tt, htt⟩ : ∃ tt, tt = bin .andNot .i64 (ofN n2) 63 := ⟨_, rfl⟩
      simp (maxSteps := 10000000) only [← htt]
      have hNT : n2 ≤ N := by obtain ⟨_, _, _, _, _, _, _, _, _, _, _, h, _⟩ := hti; omega
      have htt : tt = ((64 * (n2 / 64) : Nat) : Int) := by rw [htt, bin_is hA, ofN_ hA, andn63 n2 (by omega)]
      refine ⟨Lwr, fun x => ⟨[(7, .v (.int .i64 x.t)), (1, .v (.slice x.a x.n x.c)), (0, .v (.pointer (some D))), (4, .v (.int .i64 (ofN N))), (5, .v .nilIface)], R, [], 0, ⟨some D, 75, 75, 92, 1, x.z⟩ :: rs⟩,
        fun mm x => TI K T p L0 N m1 x.z x.a x.n x.c ∧ 64 ≤ x.n ∧ x.t = ((64 * (x.n / 64) : Nat) : Int) ∧ mm = x.n,
        ⟨n2, ⟨z2, a2, n2, c2, tt⟩, ⟨⟨rfl, rfl, rfl, rfl, rfl, trivial⟩, rfl, trivial, rfl, .refl _⟩, hti, hbig, htt, rfl⟩, ?_⟩
      rintro mm ⟨zL, aL, nL, cL, tL⟩ ⟨hti, hn64, htL, hmm⟩
      simp only at hti hn64 htL hmm
      conv => cbv
      obtain ⟨sT, bT, qT, rT, kT, riT, hzT, hbT, hri, hqT, hrT, hkN, hnc, hpT, hsT, hbufT⟩ := hti
      obtain ⟨haT, rfl⟩ := hpT (by omega)
      subst haT
      have hkc : ∀ j, j < nL → KCell R rs ((p.add kT).add j) (.int .u8 ((ps.drop kT).getD j 0)) := fun j hj => by
        rw [add_add', getD_drop]
        exact hp (kT + j) (by omega)
      by_cases hgt : 65536 < 64 * (nL / 64)
      · refine br_t (by rw [cmp_gtr hA]; simp; omega) ?_
        conv => cbv
        refine ⟨0, 65536, rfl, rfl, by omega, by omega, ?_⟩
        intro a1 n1 c1 hn1 hc1 ha1
        obtain rfl : a1 = some (p.add kT) := by rw [ha1]; simp [Addr.add]
        conv => cbv
        refine blockD hP R K hK rs D zL sT bT riT m1 hzT (p.add kT) n1 c1 1024 (by omega) (by omega) (by omega) (ps.drop kT) (fun j hj => kc_mono (hkc j (by omega)) (fun r h => List.mem_cons_of_mem _ h)) ?_
        intro z2 hz2
        conv => cbv
        refine ⟨65536, nL, rfl, rfl, by omega, by omega, ?_⟩
        intro a2 n2 c2 hn2 hc2 ha2
        conv => cbv
        have et : bin .sub .i64 tL 65536 = ((64 * (n2 / 64) : Nat) : Int) := by rw [sub_i64 hA (by omega)]; omega
        refine ⟨n2, ⟨z2, a2, n2, c2, bin .sub .i64 tL 65536⟩, by omega, ⟨⟨rfl, rfl, rfl, rfl, rfl, trivial⟩, rfl, trivial, rfl, .refl _⟩, ⟨_, bT, qT + 1024, 0, kT + 65536, riT, hz2, hbT, hri, by omega, by omega, by show kT + 65536 + n2 = N; omega, by show n2 ≤ c2; omega, fun h => ⟨?_, rfl⟩, ?_, fun j hj => absurd hj (Nat.not_lt_zero j)⟩, by show 64 ≤ n2; omega, et, rfl⟩
        · have ha2 : a2 = some ((p.add kT).add (65536 * 1)) := by rw [ha2, if_neg (by omega)]; rfl
          rw [add_add'] at ha2
          exact ha2
        · rw [hsT, blk_step hT hL0 (by omega)]
      · refine br_f (by rw [cmp_gtr hA]; simp; omega) ?_
        conv => cbv
        refine ⟨0, 64 * (nL / 64), rfl, htL.symm, by omega, by omega, ?_⟩
        intro a1 n1 c1 hn1 hc1 ha1
        obtain rfl : a1 = some (p.add kT) := by rw [ha1]; simp [Addr.add]
        conv => cbv
        refine blockD hP R K hK rs D zL sT bT riT m1 hzT (p.add kT) n1 c1 (nL / 64) (by omega) (by omega) (by omega) (ps.drop kT) (fun j hj => kc_mono (hkc j (by omega)) (fun r h => List.mem_cons_of_mem _ h)) ?_
        intro z2 hz2
        conv => cbv
        refine ⟨64 * (nL / 64), nL, htL.symm, rfl, by omega, by omega, ?_⟩
        intro a2 n2 c2 hn2 hc2 ha2
        conv => cbv
        have ha2' : n2 ≠ 0 → a2 = some (p.add (kT + 64 * (nL / 64))) := fun h => by
          have h2 : a2 = some ((p.add kT).add (64 * (nL / 64) * 1)) := by rw [ha2, if_neg (by omega)]; rfl
          rw [add_add', Nat.mul_one] at h2
          exact h2
        have hti : TI K T p L0 N m1 z2 a2 n2 c2 := ⟨_, bT, qT + nL / 64, 0, kT + 64 * (nL / 64), riT, hz2, hbT, hri, by omega, by omega, by omega, by omega, fun h => ⟨ha2' h, rfl⟩, by rw [hsT, blk_step hT hL0 (by omega)], fun j hj => absurd hj (Nat.not_lt_zero j)⟩
        clear hzT hbT hri hqT hrT hkN hsT hbufT
        obtain ⟨sT, bT, qT, rT, kT, riT, hzT, hbT, hri, hqT, hrT, hkN, hnc, hpT, hsT, hbufT⟩ := hti
        have on := ofN_ hA n2
        by_cases hn0 : n2 = 0
        · refine br_f (by rw [on, cmp_gtr hA]; simp; omega) ?_
          conv => cbv
          have hqT : L0 + N = 64 * qT + rT := by omega
          refine hg' _ ?_
          refine ⟨sT, bT, qT, rT, ?_, hbT, ?_, hrT, Nat.le_refl _, ?_, ?_⟩
          · rw [hzT, hri, hm1, hNN]
            rfl
          · rw [List.length_append, hps, ← hL0]
            omega
          · rw [hsT, hT]
          · rw [hT] at hbufT
            exact hbufT
        · refine br_t (by rw [on, cmp_gtr hA]; simp; omega) ?_
          conv => cbv
          obtain ⟨haT, rfl⟩ := hpT hn0
          refine ⟨n2, _, src_p (ys := (ps.drop kT).take n2) (by rw [List.length_take, List.length_drop]; omega) (p := p.add kT) (fun _ => haT) (fun j hj => ?_), .inr ⟨0, _, D, 8, _, rfl, rfl, rfl, fld_at (fld__is hA) D 8, ?_, ?_⟩⟩
          · have := hp (kT + j) (by omega)
            rw [add_add']
            refine kc_mono ?_ (fun r h => List.mem_cons_of_mem _ h)
            rw [List.getD_eq_getElem?_getD, List.getElem?_take_of_lt hj, List.getElem?_drop, ← List.getD_eq_getElem?_getD]
            exact this
          · show 8 + min n2 64 * 1 ≤ (z2).length
            rw [hzT, dz_len _ _ hbT]
            omega
          intro nc zc hnc2 hzc
          have hnc2 : nc = n2 := by omega
          have hzc : zc = dz sT ((ps.drop kT).take n2 ++ bT.drop n2) riT m1 := by
            have h1 := dz_cp sT bT hbT riT m1 ((ps.drop kT).take n2) 0 (by rw [List.length_take, List.length_drop]; omega)
            rw [List.length_take, List.length_drop, Nat.min_eq_left (by omega), Nat.zero_add, List.take_zero, List.nil_append] at h1
            rw [hzc, ← h1, hzT, hnc2, Nat.mul_one]
            simp only [List.take_of_length_le (show (ints .u8 ((ps.drop kT).take n2)).length ≤ n2 by rw [ints_len, List.length_take]; omega)]
          have hbc : ((ps.drop kT).take n2 ++ bT.drop n2).length = 64 := by
            rw [List.length_append, List.length_take, List.length_drop, List.length_drop]
            omega
          conv => cbv
          refine ⟨0, _, D, 72, rfl, rfl, fld_at (fld__is hA) D 72, by show 72 + 1 ≤ zc.length; rw [hzc, dz_len _ _ hbc]; omega, ?_⟩
          intro ze hze
          have hze : ze = dz sT ((ps.drop kT).take n2 ++ bT.drop n2) (ofN nc) m1 := by rw [hze, ← dz_s72 _ _ hbc riT m1, hzc]; rfl
          conv => cbv
          refine hg' _ ?_
          refine ⟨sT, _, qT, n2, ?_, hbc, ?_, by omega, Nat.le_refl _, ?_, ?_⟩
          · rw [hze, hnc2, ofN_ hA, hm1, hNN]
            rfl
          · rw [List.length_append, hps, ← hL0]
            omega
          · rw [hsT, hT]
          · intro j hj
            rw [List.getD_eq_getElem?_getD, List.getElem?_append_left (by rw [List.length_take, List.length_drop]; omega), List.getElem?_take_of_lt hj, List.getElem?_drop, List.getD_eq_getElem?_getD, List.getElem?_append_right (by omega), show 64 * qT + j - bs.length = kT + j by omega]
    · refine br_f (by rw [ofN_ hA, cmp_geq hA]; simp; omega) ?_
      conv => cbv
      have hn64' : n2 < 64 := by omega
      obtain ⟨sT, bT, qT, rT, kT, riT, hzT, hbT, hri, hqT, hrT, hkN, hnc, hpT, hsT, hbufT⟩ := hti
      have on := ofN_ hA n2
      by_cases hn0 : n2 = 0
      · refine br_f (by rw [on, cmp_gtr hA]; simp; omega) ?_
        conv => cbv
        have hqT : L0 + N = 64 * qT + rT := by omega
        refine hg' _ ?_
        refine ⟨sT, bT, qT, rT, ?_, hbT, ?_, hrT, Nat.le_refl _, ?_, ?_⟩
        · rw [hzT, hri, hm1, hNN]
          rfl
        · rw [List.length_append, hps, ← hL0]
          omega
        · rw [hsT, hT]
        · rw [hT] at hbufT
          exact hbufT
      · refine br_t (by rw [on, cmp_gtr hA]; simp; omega) ?_
        conv => cbv
        obtain ⟨haT, rfl⟩ := hpT hn0
        refine ⟨n2, _, src_p (ys := (ps.drop kT).take n2) (by rw [List.length_take, List.length_drop]; omega) (p := p.add kT) (fun _ => haT) (fun j hj => ?_), .inr ⟨0, _, D, 8, _, rfl, rfl, rfl, fld_at (fld__is hA) D 8, ?_, ?_⟩⟩
        · have := hp (kT + j) (by omega)
          rw [add_add']
          refine kc_mono ?_ (fun r h => List.mem_cons_of_mem _ h)
          rw [List.getD_eq_getElem?_getD, List.getElem?_take_of_lt hj, List.getElem?_drop, ← List.getD_eq_getElem?_getD]
          exact this
        · show 8 + min n2 64 * 1 ≤ (z2).length
          rw [hzT, dz_len _ _ hbT]
          omega
        intro nc zc hnc2 hzc
        have hnc2 : nc = n2 := by omega
        have hzc : zc = dz sT ((ps.drop kT).take n2 ++ bT.drop n2) riT m1 := by
          have h1 := dz_cp sT bT hbT riT m1 ((ps.drop kT).take n2) 0 (by rw [List.length_take, List.length_drop]; omega)
          rw [List.length_take, List.length_drop, Nat.min_eq_left (by omega), Nat.zero_add, List.take_zero, List.nil_append] at h1
          rw [hzc, ← h1, hzT, hnc2, Nat.mul_one]
          simp only [List.take_of_length_le (show (ints .u8 ((ps.drop kT).take n2)).length ≤ n2 by rw [ints_len, List.length_take]; omega)]
        have hbc : ((ps.drop kT).take n2 ++ bT.drop n2).length = 64 := by
          rw [List.length_append, List.length_take, List.length_drop, List.length_drop]
          omega
        conv => cbv
        refine ⟨0, _, D, 72, rfl, rfl, fld_at (fld__is hA) D 72, by show 72 + 1 ≤ zc.length; rw [hzc, dz_len _ _ hbc]; omega, ?_⟩
        intro ze hze
        have hze : ze = dz sT ((ps.drop kT).take n2 ++ bT.drop n2) (ofN nc) m1 := by rw [hze, ← dz_s72 _ _ hbc riT m1, hzc]; rfl
        conv => cbv
        refine hg' _ ?_
        refine ⟨sT, _, qT, n2, ?_, hbc, ?_, by omega, Nat.le_refl _, ?_, ?_⟩
        · rw [hze, hnc2, ofN_ hA, hm1, hNN]
          rfl
        · rw [List.length_append, hps, ← hL0]
          omega
        · rw [hsT, hT]
        · intro j hj
          rw [List.getD_eq_getElem?_getD, List.getElem?_append_left (by rw [List.length_take, List.length_drop]; omega), List.getElem?_take_of_lt hj, List.getElem?_drop, List.getD_eq_getElem?_getD, List.getElem?_append_right (by omega), show 64 * qT + j - bs.length = kT + j by omega]
end Go.Proofs.YtepfbdfbfimefaaDoor.Sha
