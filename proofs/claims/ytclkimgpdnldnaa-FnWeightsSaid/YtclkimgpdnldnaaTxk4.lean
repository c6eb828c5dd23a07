/- Blocks of the package, and the law on weights. -/
import Derived.Test.YtclkimgpdnldnaaTxk3
set_option linter.unusedSimpArgs false
set_option linter.unusedVariables false
namespace Go.Proofs.Ytclkimgpdnldnaa.Tx
open Go Go.Se Go.Proofs Go.Proofs.Ytclkimgpdnldnaa.Tytk


set_option maxRecDepth 100000 in
theorem unix {P : Program} (hP : P = Try.prog) (R : RO) (s : Int) : RetP P 52 [.int .i64 s, .int .i64 0] R fun _ v => v = .agg #[.int .i64 s] := by
  subst hP
  refine retP_vc Try.func52 rfl (by decide) rfl Tytx.ok52 (fz := []) ?_
  intro P bin cmp cnv neg com bnot beq ofN toN at_ sub_ scmp cat sget ssz ssub elem fld_ hP hA
  conv => cbv
  intro ρ R'' _ _ _
  rfl

set_option maxRecDepth 100000 in
theorem headerOf {P : Program} (hP : P = Try.prog) (R : RO) (hdr : GHdr) (h : HWf hdr) : RetP P 126 [.agg (hcells hdr).toArray] R fun R' v => ∃ ad hs, v = .pointer (some ad) ∧ hs.length = 68 ∧ CellsAt R' ad hs := by
  subst hP
  obtain ⟨ver, prev, root, time, bits, nonce⟩ := hdr
  obtain ⟨w1, w2, w3, w4, w5, w6, w7, w8⟩ := h
  simp only at w1 w2 w3 w4 w5 w6 w7 w8
  obtain ⟨e0, e1, e2, e3, e4, e5, e6, e7, e8, e9, e10, e11, e12, e13, e14, e15, e16, e17, e18, e19, e20, e21, e22, e23, e24, e25, e26, e27, e28, e29, e30, e31, rfl⟩ := l32 w2
  obtain ⟨f0, f1, f2, f3, f4, f5, f6, f7, f8, f9, f10, f11, f12, f13, f14, f15, f16, f17, f18, f19, f20, f21, f22, f23, f24, f25, f26, f27, f28, f29, f30, f31, rfl⟩ := l32 w4
  clear w3 w5
  refine retP_vc (fz := []) Try.func126 rfl (by decide) rfl ok126 ?_
  intro P bin cmp cnv neg com bnot beq ofN toN at_ sub_ scmp cat sget ssz ssub elem fld_ hP hA
  conv => cbv
  refine ⟨[0, 1, 2, 3, 4, 5, 6, 7, 8, 10, 11, 12, 13, 9, 14, 15, 16], [15], mix hP, by kernel_rfl, ?_⟩
  conv => cbv
  refine (unix hP R _).callQ rfl ?_
  rintro _ rfl
  conv => cbv
  refine ⟨⟨⟨rfl, trivial⟩, .refl _⟩, ?_⟩
  intro ρ R'' hle hpub _
  exact ⟨⟨ρ 1, 0, none⟩, _, rfl, by rfl, CellsAt.blk (hpub 1 _ rfl)⟩

/-- A message of a block, behind a pointer. -/
def KMsg (R : RO) (v : Value) (txs : List GTx) : Prop := ∃ ad ds a n c, v = .pointer (some ad) ∧ CellsAt R ad ds ∧ ds[68]? = some (.slice a n c) ∧ LAt R 1 (PAt 4 MsgAt) a n c txs

theorem PAt.msgLe {R R' : RO} (hl : R.le R') (cs : List Value) (x : GTx) (h : PAt 4 MsgAt R cs x) : PAt 4 MsgAt R' cs x := h.le hl (MsgAt.le hl)

set_option maxRecDepth 100000 in
set_option maxHeartbeats 2000000 in
theorem blockOf {P : Program} (hP : P = Try.prog) (R : RO) (cs : List Value) (k : GBlk) (h : KAt R cs k) (hz : ksz k ≤ 1000000) : RetP P 111 [.agg cs.toArray] R fun R' v => KMsg R' v k.txs := by
  subst hP
  obtain ⟨a, n, c, rfl, hwf, h3⟩ := h
  obtain ⟨⟨ver, prev, root, time, bits, nonce⟩, txs⟩ := k
  have hwf2 := hwf
  obtain ⟨w1, w2, w3, w4, w5, w6, w7, w8⟩ := hwf2
  simp only at w1 w2 w3 w4 w5 w6 w7 w8 h3
  obtain ⟨e0, e1, e2, e3, e4, e5, e6, e7, e8, e9, e10, e11, e12, e13, e14, e15, e16, e17, e18, e19, e20, e21, e22, e23, e24, e25, e26, e27, e28, e29, e30, e31, rfl⟩ := l32 w2
  obtain ⟨f0, f1, f2, f3, f4, f5, f6, f7, f8, f9, f10, f11, f12, f13, f14, f15, f16, f17, f18, f19, f20, f21, f22, f23, f24, f25, f26, f27, f28, f29, f30, f31, rfl⟩ := l32 w4
  have hl3 : n = txs.length := h3.len
  have hm3 := h3.mx
  unfold maxLen at hm3
  simp only [ksz] at hz ⊢
  have hs3 := len_sum tsz txs (fun x _ => by have := tsz_pos x; omega)
  refine retP_vc (fz := []) Try.func111 rfl (by decide) rfl ok111 ?_
  intro P bin cmp cnv neg com bnot beq ofN toN at_ sub_ scmp cat sget ssz ssub elem fld_ hP hA
  conv => cbv
  have o := ofN_ hA n
  have hho := headerOf hP R ⟨ver, [e0, e1, e2, e3, e4, e5, e6, e7, e8, e9, e10, e11, e12, e13, e14, e15, e16, e17, e18, e19, e20, e21, e22, e23, e24, e25, e26, e27, e28, e29, e30, e31], [f0, f1, f2, f3, f4, f5, f6, f7, f8, f9, f10, f11, f12, f13, f14, f15, f16, f17, f18, f19, f20, f21, f22, f23, f24, f25, f26, f27, f28, f29, f30, f31], time, bits, nonce⟩ hwf
  refine hho.callP rfl ?_
  rintro R0 _ hR0 ⟨ad, hs, rfl, hsl, hc⟩
  obtain ⟨v0, v1, v2, v3, v4, v5, v6, v7, v8, v9, v10, v11, v12, v13, v14, v15, v16, v17, v18, v19, v20, v21, v22, v23, v24, v25, v26, v27, v28, v29, v30, v31, v32, v33, v34, v35, v36, v37, v38, v39, v40, v41, v42, v43, v44, v45, v46, v47, v48, v49, v50, v51, v52, v53, v54, v55, v56, v57, v58, v59, v60, v61, v62, v63, v64, v65, v66, v67, rfl⟩ := l68 hsl
  conv => cbv
  refine ld_all hc rfl ?_
  conv => cbv
  have h3 := h3.le hR0 (TxAt.le hR0)
  refine ⟨Lt, fun x => ⟨[(3, .p 1 0), (4, .v (.int .i64 x.i)), (1, .p 0 0)], x.R, [(0, ⟨65, (hcells ⟨ver, [e0, e1, e2, e3, e4, e5, e6, e7, e8, e9, e10, e11, e12, e13, e14, e15, e16, e17, e18, e19, e20, e21, e22, e23, e24, e25, e26, e27, e28, e29, e30, e31], [f0, f1, f2, f3, f4, f5, f6, f7, f8, f9, f10, f11, f12, f13, f14, f15, f16, f17, f18, f19, f20, f21, f22, f23, f24, f25, f26, f27, f28, f29, f30, f31], time, bits, nonce⟩ ++ [Value.slice a n c]).map SV.v⟩), (1, ⟨209, ([v0, v1, v2, v3, v4, v5, v6, v7, v8, v9, v10, v11, v12, v13, v14, v15, v16, v17, v18, v19, v20, v21, v22, v23, v24, v25, v26, v27, v28, v29, v30, v31, v32, v33, v34, v35, v36, v37, v38, v39, v40, v41, v42, v43, v44, v45, v46, v47, v48, v49, v50, v51, v52, v53, v54, v55, v56, v57, v58, v59, v60, v61, v62, v63, v64, v65, v66, v67].map SV.v) ++ [SV.v (.slice x.a x.n x.c)]⟩)], 2, x.rs⟩,
    fun k x => ∃ i : Nat, x.i = i ∧ i ≤ n ∧ k = n - i ∧ R0.le x.R ∧ Base1 x.rs [] x.a x.n x.c 110 1 x.zs ∧ Each (PAt 4 MsgAt) x.R x.zs (txs.take i) ∧ x.n = i ∧ (x.n ≠ 0 → x.a.isSome = true),
    ⟨n, ⟨R0, 0, none, 0, 0, [], []⟩, ⟨⟨rfl, rfl, rfl, trivial⟩, rfl, ⟨rfl, rfl, trivial⟩, rfl, .refl _⟩, 0, rfl, by omega, rfl, RO.le_refl _, Base1.nil, Each.nil, rfl, fun h => absurd rfl h⟩, ?_⟩
  rintro k ⟨R1, i, a1, n1, c1, zs, rs⟩ ⟨j, hi, hj, hk, hR, hb, he, hn1, hs1⟩
  simp only at hi hR hb he hn1 hs1
  conv => cbv
  by_cases hlt : j < n
  case neg =>
    refine br_f (by rw [o, cmp_lss hA]; simp; omega) ?_
    conv => cbv
    intro ρ R'' hle hpub hpr
    rw [List.take_of_length_le (by omega)] at he
    exact ⟨⟨ρ 1, 0, none⟩, _, a1, n1, c1, rfl, CellsAt.blk (hpub 1 _ rfl), rfl, hb.lat hpr (by omega) hs1 (he.le fun _ _ h => PAt.msgLe hle _ _ h) (by unfold maxLen; omega)⟩
  refine br_t (by rw [o, cmp_lss hA]; simp; omega) ?_
  conv => cbv
  refine ⟨[0, 1, 2, 3, 4, 5, 6, 7, 8, 9, 10, 11, 12, 13, 14, 15], [12, 15], mix hP, by kernel_rfl, ?_⟩
  conv => cbv
  obtain ⟨q, hxq⟩ : ∃ q, txs[j]? = some q := ⟨_, List.getElem?_eq_getElem (by omega)⟩
  have hq := mem_sum tsz (List.mem_of_getElem? hxq)
  refine ix_at hA h3 j hi hlt ?_
  refine ld_whole hA (h3.le hR (TxAt.le hR)) j hi hxq ?_
  intro cs hcs hin
  have hto := txOf hP R1 cs q hin (by omega)
  generalize Value.agg cs.toArray = vq at hto ⊢
  conv => cbv
  refine hto.callP rfl ?_
  rintro R2 v hR2 hm
  have hm5 := hm
  obtain ⟨ad5, ds5, hv5, -⟩ := hm5
  simp only [List.cons.injEq, and_true] at hv5
  subst hv5
  conv => cbv
  refine ⟨⟨⟨rfl, rfl, trivial⟩, .refl _⟩, ?_⟩
  refine ⟨⟨⟨rfl, rfl, trivial⟩, .refl _⟩, ?_⟩
  refine ⟨n1, zs, _, _, _, 1, [.pointer (some ad5)], hb.base, .refl _, .own 2 0 1 1 _ _ rfl rfl rfl (by simp [Value.oneCell']), by omega, by omega, ?_⟩
  intro a' n' c' zs' hn' hz' hs'
  conv => cbv
  refine ⟨n - (j + 1), ⟨R2, i + 1, a', n', c', zs', _⟩, by omega, ⟨⟨rfl, ?_, rfl, trivial⟩, rfl, ⟨rfl, rfl, trivial⟩, rfl, .refl _⟩, j + 1, by show i + 1 = ((j + 1 : Nat) : Int); omega, by omega, rfl, RO.le_trans hR hR2, Base1.row, ?_, ?_, hs'⟩
  · rw [add_i64 hA (by omega)]
    rfl
  · show Each (PAt 4 MsgAt) R2 zs' _
    rw [hz', List.take_add_one, hxq]
    exact (he.le fun _ _ h => PAt.msgLe hR2 _ _ h).app hm
  · show n' = j + 1
    omega

set_option maxRecDepth 100000 in
theorem utilBlock {P : Program} (hP : P = Try.prog) (R : RO) (cs : List Value) (k : GBlk) (h : KAt R cs k) (hz : ksz k ≤ 1000000) :
    RetP P 79 [.agg cs.toArray] R fun R' v => ∃ ad m r, v = .pointer (some ad) ∧ CellsAt R' ad (m :: r) ∧ KMsg R' m k.txs := by
  subst hP
  have hh := h
  obtain ⟨a, n, c, rfl, hwf, h3⟩ := h
  obtain ⟨⟨ver, prev, root, time, bits, nonce⟩, txs⟩ := k
  have hwf2 := hwf
  obtain ⟨w1, w2, w3, w4, w5, w6, w7, w8⟩ := hwf2
  simp only at w1 w2 w3 w4 w5 w6 w7 w8 h3
  obtain ⟨e0, e1, e2, e3, e4, e5, e6, e7, e8, e9, e10, e11, e12, e13, e14, e15, e16, e17, e18, e19, e20, e21, e22, e23, e24, e25, e26, e27, e28, e29, e30, e31, rfl⟩ := l32 w2
  obtain ⟨f0, f1, f2, f3, f4, f5, f6, f7, f8, f9, f10, f11, f12, f13, f14, f15, f16, f17, f18, f19, f20, f21, f22, f23, f24, f25, f26, f27, f28, f29, f30, f31, rfl⟩ := l32 w4
  have hl3 : n = txs.length := h3.len
  have hm3 := h3.mx
  unfold maxLen at hm3
  refine retP_vc (fz := []) Try.func79 rfl (by decide) rfl ok79 ?_
  intro P bin cmp cnv neg com bnot beq ofN toN at_ sub_ scmp cat sget ssz ssub elem fld_ hP hA
  conv => cbv
  refine (blockOf hP R _ _ hh hz).callP rfl ?_
  rintro R1 v hR1 ⟨ad, ds, a1, n1, c1, rfl, k1, k2, k3⟩
  conv => cbv
  refine callP_in (fz := []) hP hA Try.func110 rfl (by decide) rfl ok110 (by simp [labL, lab]) ?_
  conv => cbv
  intro ρ R'' hle hpub _
  exact ⟨⟨ρ 1, 0, none⟩, _, _, rfl, CellsAt.blk (hpub 1 _ rfl), ad, ds, a1, n1, c1, rfl, k1.le hle, k2, k3.le hle (PAt.msgLe hle)⟩


set_option maxRecDepth 100000 in
theorem kBase {P : Program} (hP : P = Try.prog) (R : RO) (v : Value) (k : GBlk) (h : KMsg R v k.txs) (hz : ksz k ≤ 1000000) : RetP P 108 [v] R fun _ x => ∃ r : Int, x = .int .i64 r ∧ r = (kbz k false : Nat) := by
  subst hP
  obtain ⟨ad, ds, a, n, c, rfl, k1, k2, h3⟩ := h
  obtain ⟨hdr, txs⟩ := k
  simp only at h3
  simp only [ksz] at hz
  have hl3 : n = txs.length := h3.len
  have hs3 := len_sum tsz txs (fun x _ => by have := tsz_pos x; omega)
  have hvl := vlen_le txs.length
  refine retP_vc (fz := []) Try.func108 rfl (by decide) rfl ok108 ?_
  intro P bin cmp cnv neg com bnot beq ofN toN at_ sub_ scmp cat sget ssz ssub elem fld_ hP hA
  conv => cbv
  have o := ofN_ hA n
  refine ld_at hA k1 68 k2 ?_
  conv => cbv
  have ev : cnv .u64 (ofN n) = ((txs.length : Nat) : Int) := by rw [o, cnv_u64 hA (by omega)]; omega
  refine (vSize hP R _ txs.length ev).callQ rfl ?_
  rintro _ ⟨r1, rfl, hr1⟩
  conv => cbv
  refine ld_at hA k1 68 k2 ?_
  conv => cbv
  have a1 : bin .add .i64 80 r1 = 80 + r1 := add_i64 hA (by omega)
  generalize bin .add .i64 80 r1 = s at a1 ⊢
  have hs : s = (80 + vlen txs.length : Nat) := by omega
  refine ⟨Int × Int, fun x => ⟨[(19, .v (.int .i64 x.1)), (3, .v (.int .i64 x.2)), (18, .v (.int .i64 (ofN n))), (17, .v (.slice a n c))], R, [], 0, []⟩,
    fun k x => ∃ j : Nat, x.1 = j ∧ j ≤ n ∧ k = n - j ∧ x.2 = (80 + vlen txs.length + ((txs.take j).map (psz false)).sum : Nat),
    ⟨n, (0, s), ⟨⟨rfl, rfl, rfl, rfl, trivial⟩, rfl, trivial, rfl, .refl _⟩, 0, rfl, by omega, rfl, by simpa using hs⟩, ?_⟩
  clear hs a1
  rintro k ⟨i, s⟩ ⟨j, hi, hj, hk, hs⟩
  simp only at hi hs
  conv => cbv
  by_cases hlt : j < n
  case neg =>
    refine br_f (by rw [o, cmp_lss hA]; simp; omega) ?_
    conv => cbv
    intro ρ R'' _ _ _
    refine ⟨_, rfl, ?_⟩
    rw [List.take_of_length_le (by omega)] at hs
    exact hs
  refine br_t (by rw [o, cmp_lss hA]; simp; omega) ?_
  conv => cbv
  obtain ⟨q, hxq⟩ : ∃ q, txs[j]? = some q := ⟨_, List.getElem?_eq_getElem (by omega)⟩
  have hq := mem_sum tsz (List.mem_of_getElem? hxq)
  have hsm := sum_mono (psz false) (fun g => 4 * tsz g) txs j (fun x _ => psz_le false x)
  rw [sum_four] at hsm
  have hpl := psz_le false q
  refine ix_at hA h3 j hi hlt ?_
  refine ld_elem hA h3 j hi hxq ?_
  rintro cs - hm
  have hm2 := hm
  obtain ⟨ad3, ds3, rfl, -⟩ := hm
  refine ⟨_, rfl, ?_⟩
  conv => cbv
  refine (strip hP R _ q hm2 (by omega)).callQ rfl ?_
  rintro _ ⟨r, rfl, hr⟩
  have hr : r = (psz false q : Nat) := hr
  conv => cbv
  have a2 : bin .add .i64 s r = s + r := add_i64 hA (by omega)
  refine ⟨n - (j + 1), (i + 1, _), by omega, ⟨⟨?_, rfl, rfl, rfl, trivial⟩, rfl, trivial, rfl, .refl _⟩, j + 1, by show i + 1 = ((j + 1 : Nat) : Int); omega, by omega, rfl, ?_⟩
  · rw [add_i64 hA (by omega)]
    rfl
  · show bin .add .i64 s r = ((_ : Nat) : Int)
    rw [a2, sum_succ (psz false) hxq]
    omega

set_option maxRecDepth 100000 in
theorem kFull {P : Program} (hP : P = Try.prog) (R : RO) (v : Value) (k : GBlk) (h : KMsg R v k.txs) (hz : ksz k ≤ 1000000) : RetP P 109 [v] R fun _ x => ∃ r : Int, x = .int .i64 r ∧ r = (kbz k true : Nat) := by
  subst hP
  obtain ⟨ad, ds, a, n, c, rfl, k1, k2, h3⟩ := h
  obtain ⟨hdr, txs⟩ := k
  simp only at h3
  simp only [ksz] at hz
  have hl3 : n = txs.length := h3.len
  have hs3 := len_sum tsz txs (fun x _ => by have := tsz_pos x; omega)
  have hvl := vlen_le txs.length
  refine retP_vc (fz := []) Try.func109 rfl (by decide) rfl ok109 ?_
  intro P bin cmp cnv neg com bnot beq ofN toN at_ sub_ scmp cat sget ssz ssub elem fld_ hP hA
  conv => cbv
  have o := ofN_ hA n
  refine ld_at hA k1 68 k2 ?_
  conv => cbv
  have ev : cnv .u64 (ofN n) = ((txs.length : Nat) : Int) := by rw [o, cnv_u64 hA (by omega)]; omega
  refine (vSize hP R _ txs.length ev).callQ rfl ?_
  rintro _ ⟨r1, rfl, hr1⟩
  conv => cbv
  refine ld_at hA k1 68 k2 ?_
  conv => cbv
  have a1 : bin .add .i64 80 r1 = 80 + r1 := add_i64 hA (by omega)
  generalize bin .add .i64 80 r1 = s at a1 ⊢
  have hs : s = (80 + vlen txs.length : Nat) := by omega
  refine ⟨Int × Int, fun x => ⟨[(19, .v (.int .i64 x.1)), (3, .v (.int .i64 x.2)), (18, .v (.int .i64 (ofN n))), (17, .v (.slice a n c))], R, [], 0, []⟩,
    fun k x => ∃ j : Nat, x.1 = j ∧ j ≤ n ∧ k = n - j ∧ x.2 = (80 + vlen txs.length + ((txs.take j).map (psz true)).sum : Nat),
    ⟨n, (0, s), ⟨⟨rfl, rfl, rfl, rfl, trivial⟩, rfl, trivial, rfl, .refl _⟩, 0, rfl, by omega, rfl, by simpa using hs⟩, ?_⟩
  clear hs a1
  rintro k ⟨i, s⟩ ⟨j, hi, hj, hk, hs⟩
  simp only at hi hs
  conv => cbv
  by_cases hlt : j < n
  case neg =>
    refine br_f (by rw [o, cmp_lss hA]; simp; omega) ?_
    conv => cbv
    intro ρ R'' _ _ _
    refine ⟨_, rfl, ?_⟩
    rw [List.take_of_length_le (by omega)] at hs
    exact hs
  refine br_t (by rw [o, cmp_lss hA]; simp; omega) ?_
  conv => cbv
  obtain ⟨q, hxq⟩ : ∃ q, txs[j]? = some q := ⟨_, List.getElem?_eq_getElem (by omega)⟩
  have hq := mem_sum tsz (List.mem_of_getElem? hxq)
  have hsm := sum_mono (psz true) (fun g => 4 * tsz g) txs j (fun x _ => psz_le true x)
  rw [sum_four] at hsm
  have hpl := psz_le true q
  refine ix_at hA h3 j hi hlt ?_
  refine ld_elem hA h3 j hi hxq ?_
  rintro cs - hm
  have hm2 := hm
  obtain ⟨ad3, ds3, rfl, -⟩ := hm
  refine ⟨_, rfl, ?_⟩
  conv => cbv
  refine (fullSize hP R _ q hm2 (by omega)).callQ rfl ?_
  rintro _ ⟨r, rfl, hr⟩
  have hr : r = (psz true q : Nat) := hr
  conv => cbv
  have a2 : bin .add .i64 s r = s + r := add_i64 hA (by omega)
  refine ⟨n - (j + 1), (i + 1, _), by omega, ⟨⟨?_, rfl, rfl, rfl, trivial⟩, rfl, trivial, rfl, .refl _⟩, j + 1, by show i + 1 = ((j + 1 : Nat) : Int); omega, by omega, rfl, ?_⟩
  · rw [add_i64 hA (by omega)]
    rfl
  · show bin .add .i64 s r = ((_ : Nat) : Int)
    rw [a2, sum_succ (psz true) hxq]
    omega

set_option maxRecDepth 100000 in
theorem kwImpl {P : Program} (hP : P = Try.prog) (R : RO) (cs : List Value) (k : GBlk) (h : KAt R cs k) (hz : ksz k ≤ 1000000) : RetP P 42 [.agg cs.toArray] R fun _ x => ∃ r : Int, x = .int .i64 r ∧ r = (kwgt k : Nat) := by
  subst hP
  have hh := h
  have hb1 := kbz_le k false hz
  have hb2 := kbz_le k true hz
  obtain ⟨a, n, c, rfl, hwf, h3⟩ := h
  obtain ⟨⟨ver, prev, root, time, bits, nonce⟩, txs⟩ := k
  have hwf2 := hwf
  obtain ⟨w1, w2, w3, w4, w5, w6, w7, w8⟩ := hwf2
  simp only at w1 w2 w3 w4 w5 w6 w7 w8 h3
  obtain ⟨e0, e1, e2, e3, e4, e5, e6, e7, e8, e9, e10, e11, e12, e13, e14, e15, e16, e17, e18, e19, e20, e21, e22, e23, e24, e25, e26, e27, e28, e29, e30, e31, rfl⟩ := l32 w2
  obtain ⟨f0, f1, f2, f3, f4, f5, f6, f7, f8, f9, f10, f11, f12, f13, f14, f15, f16, f17, f18, f19, f20, f21, f22, f23, f24, f25, f26, f27, f28, f29, f30, f31, rfl⟩ := l32 w4
  have hl3 : n = txs.length := h3.len
  have hm3 := h3.mx
  unfold maxLen at hm3
  refine retP_vc (fz := []) Try.func42 rfl (by decide) rfl ok42 ?_
  intro P bin cmp cnv neg com bnot beq ofN toN at_ sub_ scmp cat sget ssz ssub elem fld_ hP hA
  conv => cbv
  refine (utilBlock hP R _ _ hh hz).callP rfl ?_
  rintro R1 v hR1 ⟨ad, m, r0, rfl, k1, km⟩
  have km2 := km
  obtain ⟨ad2, ds, a1, n1, c1, rfl, -⟩ := km2
  conv => cbv
  refine callP_in (fz := []) hP hA Try.func78 rfl (by decide) rfl ok78 (by simp [labL, lab]) ?_
  conv => cbv
  refine callP_in (fz := []) hP hA Try.func107 rfl (by decide) rfl ok107 (by simp [labL, lab]) ?_
  conv => cbv
  refine ld_at hA k1 0 rfl ?_
  conv => cbv
  refine (kBase hP R1 _ _ km hz).callQ rfl ?_
  rintro _ ⟨r, rfl, hr⟩
  conv => cbv
  refine (kFull hP R1 _ _ km hz).callQ rfl ?_
  rintro _ ⟨s, rfl, hs⟩
  conv => cbv
  intro ρ R'' _ _ _
  refine ⟨_, rfl, ?_⟩
  show bin .add .i64 (bin .mul .i64 r 3) s = ((kwgt _ : Nat) : Int)
  have a1 : bin .mul .i64 r 3 = r * 3 := mul_i64 hA (by omega)
  rw [a1, add_i64 hA (by omega), hr, hs, kwgt]
  omega


set_option maxRecDepth 100000 in
set_option maxHeartbeats 1000000 in
theorem law12 (R : RO) (cs : List Value) (k : GBlk) (h : KAt R cs k) : RetP Try.prog 12 [.agg cs.toArray] R fun _ v => v = .bool true := by
  have hh := h
  obtain ⟨kk, hkk⟩ : ∃ kk, kk = k := ⟨_, rfl⟩
  obtain ⟨a, n, c, rfl, hwf, h3⟩ := h
  obtain ⟨⟨ver, prev, root, time, bits, nonce⟩, txs⟩ := k
  have hwf2 := hwf
  obtain ⟨w1, w2, w3, w4, w5, w6, w7, w8⟩ := hwf2
  simp only at w1 w2 w3 w4 w5 w6 w7 w8 h3
  obtain ⟨e0, e1, e2, e3, e4, e5, e6, e7, e8, e9, e10, e11, e12, e13, e14, e15, e16, e17, e18, e19, e20, e21, e22, e23, e24, e25, e26, e27, e28, e29, e30, e31, rfl⟩ := l32 w2
  obtain ⟨f0, f1, f2, f3, f4, f5, f6, f7, f8, f9, f10, f11, f12, f13, f14, f15, f16, f17, f18, f19, f20, f21, f22, f23, f24, f25, f26, f27, f28, f29, f30, f31, rfl⟩ := l32 w4
  have hl3 : n = txs.length := h3.len
  have hm3 := h3.mx
  unfold maxLen at hm3
  refine retP_vc (fz := []) Try.func12 rfl (by decide) rfl ok12 ?_
  intro P bin cmp cnv neg com bnot beq ofN toN at_ sub_ scmp cat sget ssz ssub elem fld_ hP hA
  conv => cbv
  have o := ofN_ hA n
  refine (fits8 hP R _ _ hh).callQ rfl ?_
  rintro _ ⟨b, rfl⟩
  conv => cbv
  refine br_of (fun _ => ?_) (fun _ => ?_)
  · conv => cbv
    intro ρ R'' _ _ _
    rfl
  conv => cbv
  refine (blockSize hP R _ _ hh).callQ rfl ?_
  rintro _ ⟨z, rfl, hz⟩
  conv => cbv
  by_cases d1 : z > 100000
  · refine br_t (by rw [cmp_gtr hA]; simp; omega) ?_
    conv => cbv
    intro ρ R'' _ _ _
    rfl
  refine br_f (by rw [cmp_gtr hA]; simp; omega) ?_
  conv => cbv
  rw [← hkk] at hz
  have hzs : ksz kk ≤ 1000000 := by
    rw [hz] at d1
    unfold capn at d1
    split at d1 <;> omega
  have hzt : 90 + (txs.map tsz).sum ≤ 1000000 := by rw [hkk] at hzs; exact hzs
  rw [hkk] at hzs
  refine ⟨Int, fun x => ⟨[(3, .v (.int .i64 x)), (1, .p 0 0)], R, [(0, ⟨65, (hcells ⟨ver, [e0, e1, e2, e3, e4, e5, e6, e7, e8, e9, e10, e11, e12, e13, e14, e15, e16, e17, e18, e19, e20, e21, e22, e23, e24, e25, e26, e27, e28, e29, e30, e31], [f0, f1, f2, f3, f4, f5, f6, f7, f8, f9, f10, f11, f12, f13, f14, f15, f16, f17, f18, f19, f20, f21, f22, f23, f24, f25, f26, f27, f28, f29, f30, f31], time, bits, nonce⟩ ++ [Value.slice a n c]).map SV.v⟩)], 1, []⟩,
    fun k x => ∃ i : Nat, x = i ∧ i ≤ n ∧ k = n - i, ⟨n, 0, ⟨⟨rfl, rfl, trivial⟩, rfl, ⟨rfl, trivial⟩, rfl, .refl _⟩, 0, rfl, by omega, rfl⟩, ?_⟩
  rintro k x ⟨j, hx, hj, hk⟩
  conv => cbv
  by_cases hlt : j < n
  case pos =>
    refine br_t (by rw [o, cmp_lss hA]; simp; omega) ?_
    conv => cbv
    refine ⟨[0, 1, 2, 3, 4, 6, 7, 8, 9, 10, 5, 11, 12], [], mix hP, by kernel_rfl, ?_⟩
    conv => cbv
    obtain ⟨q, hxq⟩ : ∃ q, txs[j]? = some q := ⟨_, List.getElem?_eq_getElem (by omega)⟩
    have hq := mem_sum tsz (List.mem_of_getElem? hxq)
    refine ix_at hA h3 j hx hlt ?_
    refine ld_whole hA h3 j hx hxq ?_
    intro cs hcs hin
    have hwi := wgtImpl hP R cs q hin (by omega)
    generalize Value.agg cs.toArray = vq at hwi ⊢
    conv => cbv
    refine ix_at hA h3 j hx hlt ?_
    refine ld_whole hA h3 j hx hxq ?_
    intro cs2 hcs2 hin2
    have hws := wgtSpec hP R cs2 q hin2 (by omega)
    generalize Value.agg cs2.toArray = vq2 at hws ⊢
    conv => cbv
    refine hwi.callQ rfl ?_
    rintro _ ⟨r, rfl, hr⟩
    conv => cbv
    refine ⟨⟨⟨rfl, trivial⟩, .refl _⟩, ?_⟩
    refine hws.callQ rfl ?_
    rintro _ ⟨s, rfl, hs⟩
    conv => cbv
    refine ⟨⟨⟨rfl, trivial⟩, .refl _⟩, ?_⟩
    refine br_f (by rw [cmp_neq hA, hr, hs]; simp) ?_
    conv => cbv
    refine ⟨n - (j + 1), x + 1, by omega, ⟨⟨?_, rfl, trivial⟩, rfl, ⟨rfl, trivial⟩, rfl, .refl _⟩, j + 1, by show x + 1 = ((j + 1 : Nat) : Int); omega, by omega, rfl⟩
    rw [add_i64 hA (by omega)]
    rfl
  refine br_f (by rw [o, cmp_lss hA]; simp; omega) ?_
  conv => cbv
  refine ⟨[0, 2, 1, 3, 4, 5], [], mix hP, by kernel_rfl, ?_⟩
  conv => cbv
  refine (kwImpl hP R _ _ hh hzs).callQ rfl ?_
  rintro _ ⟨r, rfl, hr⟩
  conv => cbv
  refine ⟨⟨⟨rfl, trivial⟩, .refl _⟩, ?_⟩
  refine (kwSpec hP R _ _ hh hzs).callQ rfl ?_
  rintro _ ⟨s, rfl, hs⟩
  conv => cbv
  refine ⟨⟨⟨rfl, trivial⟩, .refl _⟩, ?_⟩
  intro ρ R'' _ _ _
  show Value.bool (cmp .eql r s) = .bool true
  rw [cmp_eql hA, hr, hs]
  simp
end Go.Proofs.Ytclkimgpdnldnaa.Tx
