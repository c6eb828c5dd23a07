/- Blocks: the size, roughly; the weight of a transaction; the bytes of a header. -/
import Derived.Test.YtclkimgpdnldnaaTxk
set_option linter.unusedSimpArgs false
set_option linter.unusedVariables false
namespace Go.Proofs.Ytclkimgpdnldnaa.Tx
open Go Go.Se Go.Proofs Go.Proofs.Ytclkimgpdnldnaa.Tytk




set_option maxRecDepth 100000 in
theorem fits8 {P : Program} (hP : P = Try.prog) (R : RO) (cs : List Value) (k : GBlk) (h : KAt R cs k) : RetP P 38 [.agg cs.toArray] R fun _ v => ∃ b, v = .bool b := by
  subst hP
  obtain ⟨a, n, c, rfl, hwf, h3⟩ := h
  obtain ⟨⟨ver, prev, root, time, bits, nonce⟩, txs⟩ := k
  have hwf2 := hwf
  obtain ⟨w1, w2, w3, w4, w5, w6, w7, w8⟩ := hwf2
  simp only at w1 w2 w3 w4 w5 w6 w7 w8 h3
  obtain ⟨e0, e1, e2, e3, e4, e5, e6, e7, e8, e9, e10, e11, e12, e13, e14, e15, e16, e17, e18, e19, e20, e21, e22, e23, e24, e25, e26, e27, e28, e29, e30, e31, rfl⟩ := l32 w2
  obtain ⟨f0, f1, f2, f3, f4, f5, f6, f7, f8, f9, f10, f11, f12, f13, f14, f15, f16, f17, f18, f19, f20, f21, f22, f23, f24, f25, f26, f27, f28, f29, f30, f31, rfl⟩ := l32 w4
  have hl3 : n = txs.length := h3.len
  have hm3 := h3.mx
  unfold maxLen at hm3
  refine retP_vc (fz := []) Try.func38 rfl (by decide) rfl ok38 ?_
  intro P bin cmp cnv neg com bnot beq ofN toN at_ sub_ scmp cat sget ssz ssub elem fld_ hP hA
  conv => cbv
  refine (fits9 hP R a n c _ h3).callQ rfl ?_
  rintro _ ⟨b, rfl⟩
  conv => cbv
  refine br_of (fun _ => ?_) (fun _ => ?_)
  · conv => cbv
    intro ρ R'' _ _ _
    exact ⟨_, rfl⟩
  · conv => cbv
    intro ρ R'' _ _ _
    exact ⟨_, rfl⟩

set_option maxRecDepth 100000 in
set_option maxHeartbeats 1000000 in
theorem blockSize {P : Program} (hP : P = Try.prog) (R : RO) (cs : List Value) (k : GBlk) (h : KAt R cs k) : RetP P 39 [.agg cs.toArray] R fun _ v => ∃ n : Int, v = .int .i64 n ∧ n = capn (ksz k) := by
  subst hP
  obtain ⟨a, n, c, rfl, hwf, h3⟩ := h
  obtain ⟨⟨ver, prev, root, time, bits, nonce⟩, txs⟩ := k
  have hwf2 := hwf
  obtain ⟨w1, w2, w3, w4, w5, w6, w7, w8⟩ := hwf2
  simp only at w1 w2 w3 w4 w5 w6 w7 w8 h3
  obtain ⟨e0, e1, e2, e3, e4, e5, e6, e7, e8, e9, e10, e11, e12, e13, e14, e15, e16, e17, e18, e19, e20, e21, e22, e23, e24, e25, e26, e27, e28, e29, e30, e31, rfl⟩ := l32 w2
  obtain ⟨f0, f1, f2, f3, f4, f5, f6, f7, f8, f9, f10, f11, f12, f13, f14, f15, f16, f17, f18, f19, f20, f21, f22, f23, f24, f25, f26, f27, f28, f29, f30, f31, rfl⟩ := l32 w4
  have hl3 : n = txs.length := h3.len
  have hm3 := h3.mx
  unfold maxLen at hm3
  refine retP_vc (fz := []) Try.func39 rfl (by decide) rfl ok39 ?_
  intro P bin cmp cnv neg com bnot beq ofN toN at_ sub_ scmp cat sget ssz ssub elem fld_ hP hA
  conv => cbv
  have o := ofN_ hA n
  refine ⟨Int × Int, fun x => ⟨[(3, .v (.int .i64 x.1)), (4, .v (.int .i64 x.2)), (1, .p 0 0)], R, [(0, ⟨65, (hcells ⟨ver, [e0, e1, e2, e3, e4, e5, e6, e7, e8, e9, e10, e11, e12, e13, e14, e15, e16, e17, e18, e19, e20, e21, e22, e23, e24, e25, e26, e27, e28, e29, e30, e31], [f0, f1, f2, f3, f4, f5, f6, f7, f8, f9, f10, f11, f12, f13, f14, f15, f16, f17, f18, f19, f20, f21, f22, f23, f24, f25, f26, f27, f28, f29, f30, f31], time, bits, nonce⟩ ++ [Value.slice a n c]).map SV.v⟩)], 1, []⟩,
    fun k x => ∃ i : Nat, x.2 = i ∧ i ≤ n ∧ k = n - i ∧ x.1 = (capn (90 + ((txs.take i).map tsz).sum) : Nat), ⟨n, (90, 0), ⟨⟨rfl, rfl, rfl, trivial⟩, rfl, ⟨rfl, trivial⟩, rfl, .refl _⟩, 0, rfl, by omega, rfl, rfl⟩, ?_⟩
  rintro k ⟨x, y⟩ ⟨i, hy, hi, hk, hn⟩
  simp only at hy hn
  conv => cbv
  by_cases hlt : i < n
  case neg =>
    have c1 : cmp .lss y (ofN n) = false := by rw [o, cmp_lss hA]; simp; omega
    simp only [c1]
    conv => cbv
    intro ρ R'' _ _ _
    refine ⟨_, rfl, ?_⟩
    show x = ((capn (ksz _) : Nat) : Int)
    rw [hn, sum_all tsz (by omega)]
    rfl
  have c1 : cmp .lss y (ofN n) = true := by rw [o, cmp_lss hA]; simp; omega
  simp only [c1]
  conv => cbv
  by_cases hle : x ≤ 100000
  case neg =>
    have c2 : cmp .leq x 100000 = false := by rw [cmp_leq hA]; simp; omega
    simp only [c2]
    conv => cbv
    intro ρ R'' _ _ _
    refine ⟨_, rfl, ?_⟩
    show x = ((capn (ksz _) : Nat) : Int)
    rw [hn]
    refine congrArg Int.ofNat (capn_top (by omega) ?_).symm
    have := sum_le tsz txs i
    simp only [ksz]
    omega
  have c2 : cmp .leq x 100000 = true := by rw [cmp_leq hA]; simp; omega
  simp only [c2]
  conv => cbv
  obtain ⟨g, hxi⟩ : ∃ g, txs[i]? = some g := ⟨_, List.getElem?_eq_getElem (by omega)⟩
  refine ix_at hA h3 i hy hlt ?_
  refine ld_whole hA h3 i hy hxi ?_
  intro cs hcs h1
  have hin := h1
  obtain ⟨a1, n1, c1, a2, n2, c2, rfl, -⟩ := h1
  conv => cbv
  refine (txSize hP R _ g hin).callQ rfl ?_
  rintro _ ⟨z, rfl, hz⟩
  conv => cbv
  refine (more hP R x z _ (capn (tsz g)) hn hz).callQ rfl ?_
  rintro _ ⟨r, rfl, hr⟩
  conv => cbv
  refine ⟨n - (i + 1), (r, y + 1), by omega, ⟨⟨rfl, ?_, rfl, trivial⟩, rfl, ⟨rfl, trivial⟩, rfl, .refl _⟩, i + 1, by show y + 1 = ((i + 1 : Nat) : Int); omega, by omega, rfl, ?_⟩
  · rw [add_i64 hA (by omega)]
    rfl
  · show r = ((capn (90 + ((txs.take (i + 1)).map tsz).sum) : Nat) : Int)
    rw [hr, capn_add, sum_succ tsz hxi, Nat.add_assoc]

def wgt (g : GTx) : Nat := 3 * bsz g + fsz g

theorem fsz_le (g : GTx) (hz : tsz g ≤ 1000000) : fsz g ≤ 3000000 ∧ bsz g ≤ 2000000 := by
  simp only [tsz] at hz
  have v1 := vlen_le g.ins.length
  have v2 := vlen_le g.outs.length
  have h1 := sum_mono inSz isz g.ins g.ins.length (fun x _ => inSz_le x)
  have h2 := sum_mono outSz osz g.outs g.outs.length (fun x _ => outSz_le x)
  have h3 := sum_mono (fun q : GIn => witSz q.wit) isz g.ins g.ins.length (fun x _ => witSz_le x)
  rw [List.take_of_length_le (Nat.le_refl _)] at h1 h2 h3
  refine ⟨?_, ?_⟩
  · simp only [fsz, bsz]
    split <;> omega
  · simp only [bsz]
    omega

set_option maxRecDepth 100000 in
theorem wgtSpec {P : Program} (hP : P = Try.prog) (R : RO) (cs : List Value) (g : GTx) (h : TxAt R cs g) (hz : tsz g ≤ 1000000) : RetP P 41 [.agg cs.toArray] R fun _ x => ∃ r : Int, x = .int .i64 r ∧ r = (wgt g : Nat) := by
  subst hP
  have hh := h
  have hhs := h.hashes
  have hbd := fsz_le g hz
  obtain ⟨a, n, c, a2, n2, cc, rfl, -⟩ := h
  refine retP_vc (fz := []) Try.func41 rfl (by decide) rfl ok41 ?_
  intro P bin cmp cnv neg com bnot beq ofN toN at_ sub_ scmp cat sget ssz ssub elem fld_ hP hA
  conv => cbv
  refine ⟨[0, 4, 1, 2, 3, 5, 6, 7, 8], [], mix hP, by kernel_rfl, ?_⟩
  conv => cbv
  refine (txBytes hP R _ g hh hz false).call rfl ?_
  intro b1 m1 d1' y1 rs1 hb1 hs1 ⟨hm1, _⟩
  rw [txB_len g hhs] at hm1
  conv => cbv
  refine ⟨⟨⟨rfl, trivial⟩, hb1.sub⟩, ?_⟩
  refine (txBytes hP R _ g hh hz true).call rfl ?_
  intro b2 m2 d2 y2 rs2 hb2 hs2 ⟨hm2, _⟩
  rw [txB_len g hhs] at hm2
  conv => cbv
  refine ⟨⟨⟨rfl, trivial⟩, hb2.sub⟩, ?_⟩
  intro ρ R'' _ _ _
  refine ⟨_, rfl, ?_⟩
  have e1 : m1 = bsz g := by rw [hm1]; simp
  have e2 : m2 = fsz g := by rw [hm2, fsz]; simp
  show bin .add .i64 (bin .mul .i64 3 (ofN m1)) (ofN m2) = ((wgt g : Nat) : Int)
  have o1 := ofN_ hA m1
  have o2 := ofN_ hA m2
  have a1 : bin .mul .i64 3 (ofN m1) = 3 * (m1 : Int) := by rw [o1]; exact mul_i64 hA (by omega)
  rw [a1, o2, add_i64 hA (by omega), e1, e2, wgt]
  omega

set_option maxRecDepth 100000 in
theorem wgtImpl {P : Program} (hP : P = Try.prog) (R : RO) (cs : List Value) (g : GTx) (h : TxAt R cs g) (hz : tsz g ≤ 1000000) : RetP P 40 [.agg cs.toArray] R fun _ x => ∃ r : Int, x = .int .i64 r ∧ r = (wgt g : Nat) := by
  subst hP
  have hh := h
  have hbd := fsz_le g hz
  obtain ⟨a, n, c, a2, n2, cc, rfl, -⟩ := h
  refine retP_vc (fz := []) Try.func40 rfl (by decide) rfl ok40 ?_
  intro P bin cmp cnv neg com bnot beq ofN toN at_ sub_ scmp cat sget ssz ssub elem fld_ hP hA
  conv => cbv
  refine (utilTx hP R _ g hh hz).callP rfl ?_
  rintro R1 v hR1 ⟨ad, m0, rfl, k1, hm⟩
  have hm2 := hm
  obtain ⟨ad2, ds, hv, -⟩ := hm
  simp only [List.cons.injEq, and_true] at hv
  subst hv
  conv => cbv
  refine callP_in (fz := []) hP hA Try.func77 rfl (by decide) rfl ok77 (by simp [labL, lab]) ?_
  conv => cbv
  refine callP_in (fz := []) hP hA Try.func83 rfl (by decide) rfl Tytx.ok83 (by simp [labL, lab]) ?_
  conv => cbv
  refine ld_at hA k1 0 rfl ?_
  conv => cbv
  refine (strip hP R1 _ g hm2 hz).callQ rfl ?_
  rintro _ ⟨r, rfl, hr⟩
  conv => cbv
  refine (fullSize hP R1 _ g hm2 hz).callQ rfl ?_
  rintro _ ⟨s, rfl, hs⟩
  conv => cbv
  intro ρ R'' _ _ _
  refine ⟨_, rfl, ?_⟩
  show bin .add .i64 (bin .mul .i64 r 3) s = ((wgt g : Nat) : Int)
  have a1 : bin .mul .i64 r 3 = r * 3 := mul_i64 hA (by omega)
  rw [a1, add_i64 hA (by omega), hr, hs, wgt]
  omega

def hdrB (h : GHdr) : List Int := le 4 (h.ver % 4294967296).toNat ++ h.prev ++ h.root ++ le 4 h.time.toNat ++ le 4 h.bits.toNat ++ le 4 h.nonce.toNat


set_option maxRecDepth 100000 in
set_option maxHeartbeats 1000000 in
theorem headerBytes {P : Program} (hP : P = Try.prog) (R : RO) (hdr : GHdr) (h : HWf hdr) : RowP P 112 [.agg (hcells hdr).toArray] R 5 1 (Bs .u8 (hdrB hdr)) := by
  subst hP
  obtain ⟨ver, prev, root, time, bits, nonce⟩ := hdr
  obtain ⟨w1, w2, w3, w4, w5, w6, w7, w8⟩ := h
  simp only at w1 w2 w3 w4 w5 w6 w7 w8
  obtain ⟨e0, e1, e2, e3, e4, e5, e6, e7, e8, e9, e10, e11, e12, e13, e14, e15, e16, e17, e18, e19, e20, e21, e22, e23, e24, e25, e26, e27, e28, e29, e30, e31, rfl⟩ := l32 w2
  obtain ⟨f0, f1, f2, f3, f4, f5, f6, f7, f8, f9, f10, f11, f12, f13, f14, f15, f16, f17, f18, f19, f20, f21, f22, f23, f24, f25, f26, f27, f28, f29, f30, f31, rfl⟩ := l32 w4
  clear w3 w5
  obtain ⟨t1, t2⟩ := u32_u64 w6
  obtain ⟨t3, t4⟩ := u32_u64 w7
  obtain ⟨t5, t6⟩ := u32_u64 w8
  refine rowP_vc (fz := []) Try.func112 rfl (by decide) rfl ok112 ?_
  intro P bin cmp cnv neg com bnot beq ofN toN at_ sub_ scmp cat sget ssz ssub elem fld_ hP hA
  conv => cbv
  have er : cnv .u64 (cnv .u32 ver) = (((ver % 4294967296).toNat : Nat) : Int) := by
    have e : cnv .u32 ver = ver % 4294967296 := by rw [cnv_ hA, wrap_u32]
    rw [e, cnv_u64 hA (by omega)]
    omega
  refine (little hP R _ 4 (ver % 4294967296).toNat 4 er rfl (by omega) (by decide)).call rfl ?_
  intro a0 n0 c0 z0 rs0 hb0 hs0 ⟨hn0, hz0⟩
  rw [le_len] at hn0
  conv => cbv
  refine ⟨n0, z0, _, _, _, 32, ints .u8 [e0, e1, e2, e3, e4, e5, e6, e7, e8, e9, e10, e11, e12, e13, e14, e15, e16, e17, e18, e19, e20, e21, e22, e23, e24, e25, e26, e27, e28, e29, e30, e31], hb0.base, .refl _, .own 0 1 32 32 _ _ rfl rfl rfl (ints_one _ _), by omega, by omega, ?_⟩
  intro a1 n1 c1 z1 hn1 hz1 hs1
  have hb1 := Base1.row (rest := []) (a := a1) (n := n1) (c := c1) (e := 5) (sz := 1) (zs := z1)
  conv => cbv
  refine ⟨n1, z1, _, _, _, 32, ints .u8 [f0, f1, f2, f3, f4, f5, f6, f7, f8, f9, f10, f11, f12, f13, f14, f15, f16, f17, f18, f19, f20, f21, f22, f23, f24, f25, f26, f27, f28, f29, f30, f31], hb1.base, .refl _, .own 0 33 32 32 _ _ rfl rfl rfl (ints_one _ _), by omega, by omega, ?_⟩
  intro a2 n2 c2 z2 hn2 hz2 hs2
  conv => cbv
  have hb2 := Base1.row (rest := []) (a := a2) (n := n2) (c := c2) (e := 5) (sz := 1) (zs := z2)
  have e2 : cnv .u64 time = ((time.toNat : Nat) : Int) := by rw [cnv_u64 hA (by omega)]; exact t1
  refine (little hP R _ 4 time.toNat 4 e2 rfl t2 (by decide)).call rfl ?_
  clear e2
  intro b6 m6 d6 y6 rs6 hb6 hs6 ⟨hm6, hy3⟩
  have hk6 := hm6
  rw [le_len] at hk6
  conv => cbv
  obtain ⟨rs0, hbase, hdrop⟩ := hb2.base2 hb6
  refine ⟨n2, z2, _, rs0, _, m6, y6, hbase _ _ _ _, hdrop, hb6.src hs6 (by rw [hy3, ints_len]; omega) (by rw [hy3]; exact ints_one _ _), by omega, by omega, ?_⟩
  clear hbase hdrop rs0
  intro a3 n3 c3 z3 hn3 hz3 hs7
  conv => cbv
  rw [hk6] at hn3
  clear hk6 hm6
  have hb3 := Base1.row (rest := []) (a := a3) (n := n3) (c := c3) (e := 5) (sz := 1) (zs := z3)
  have e2 : cnv .u64 bits = ((bits.toNat : Nat) : Int) := by rw [cnv_u64 hA (by omega)]; exact t3
  refine (little hP R _ 4 bits.toNat 4 e2 rfl t4 (by decide)).call rfl ?_
  clear e2
  intro b6 m6 d6 y6 rs6 hb6 hs6 ⟨hm6, hy4⟩
  have hk6 := hm6
  rw [le_len] at hk6
  conv => cbv
  obtain ⟨rs0, hbase, hdrop⟩ := hb3.base2 hb6
  refine ⟨n3, z3, _, rs0, _, m6, y6, hbase _ _ _ _, hdrop, hb6.src hs6 (by rw [hy4, ints_len]; omega) (by rw [hy4]; exact ints_one _ _), by omega, by omega, ?_⟩
  clear hbase hdrop rs0
  intro a4 n4 c4 z4 hn4 hz4 hs7
  conv => cbv
  rw [hk6] at hn4
  clear hk6 hm6
  have hb4 := Base1.row (rest := []) (a := a4) (n := n4) (c := c4) (e := 5) (sz := 1) (zs := z4)
  have e2 : cnv .u64 nonce = ((nonce.toNat : Nat) : Int) := by rw [cnv_u64 hA (by omega)]; exact t5
  refine (little hP R _ 4 nonce.toNat 4 e2 rfl t6 (by decide)).call rfl ?_
  clear e2
  intro b6 m6 d6 y6 rs6 hb6 hs6 ⟨hm6, hy5⟩
  have hk6 := hm6
  rw [le_len] at hk6
  conv => cbv
  obtain ⟨rs0, hbase, hdrop⟩ := hb4.base2 hb6
  refine ⟨n4, z4, _, rs0, _, m6, y6, hbase _ _ _ _, hdrop, hb6.src hs6 (by rw [hy5, ints_len]; omega) (by rw [hy5]; exact ints_one _ _), by omega, by omega, ?_⟩
  clear hbase hdrop rs0
  intro a5 n5 c5 z5 hn5 hz5 hs7
  conv => cbv
  rw [hk6] at hn5
  clear hk6 hm6
  refine fun _ => Base1.isRow (rest := []) Base1.row ⟨?_, ?_⟩
  · simp only [hdrB, List.length_append, le_len, w2, w4]
    simp
    omega
  · rw [hz5, hz4, hz3, hz2, hz1, hz0, hy3, hy4, hy5, ints_app, ints_app, ints_app, ints_app, ints_app]
    rfl
end Go.Proofs.Ytclkimgpdnldnaa.Tx
