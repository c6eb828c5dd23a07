/- Blocks: the bytes, and the weight by them. -/
import Derived.Test.YtclkimgpdnldnaaTxk2
set_option linter.unusedSimpArgs false
set_option linter.unusedVariables false
namespace Go.Proofs.Ytclkimgpdnldnaa.Tx
open Go Go.Se Go.Proofs Go.Proofs.Ytclkimgpdnldnaa.Tytk



theorem latTxs {R : RO} {a : Option Addr} {n c : Nat} {txs : List GTx} (h : LAt R 4 TxAt a n c txs) : ∀ t ∈ txs, ∀ x ∈ t.ins, x.hash.length = 32 := fun t ht => by
  obtain ⟨i, hi, rfl⟩ := List.getElem_of_mem ht
  obtain ⟨ad, cs, -, -, -, hx⟩ := h.at_ i txs[i] (List.getElem?_eq_getElem hi)
  exact hx.hashes

/-- A transaction's size with or without witnesses. -/
def psz (w : Bool) (g : GTx) : Nat := if w then fsz g else bsz g

theorem txB_psz (g : GTx) (h : ∀ x ∈ g.ins, x.hash.length = 32) (w : Bool) : (txB g (w && hw g)).length = psz w g := by
  rw [txB_len g h]
  cases w
  · simp [psz]
  · simp [psz, fsz]

theorem psz_le (w : Bool) (g : GTx) : psz w g ≤ 4 * tsz g := by
  have v1 := vlen_le g.ins.length
  have v2 := vlen_le g.outs.length
  have h1 := sum_mono inSz isz g.ins g.ins.length (fun x _ => inSz_le x)
  have h2 := sum_mono outSz osz g.outs g.outs.length (fun x _ => outSz_le x)
  have h3 := sum_mono (fun q : GIn => witSz q.wit) isz g.ins g.ins.length (fun x _ => witSz_le x)
  rw [List.take_of_length_le (Nat.le_refl _)] at h1 h2 h3
  cases w
  · simp only [psz, bsz, tsz, Bool.false_eq_true, if_false]
    omega
  · simp only [psz, fsz, bsz, tsz, if_true]
    split <;> omega

theorem sum_four (l : List GTx) : (l.map fun g => 4 * tsz g).sum = 4 * (l.map tsz).sum := by
  induction l with
  | nil => rfl
  | cons x l ih => simp only [List.map_cons, List.sum_cons, ih]; omega

theorem tsz_pos (g : GTx) : 10 ≤ tsz g := by unfold tsz; omega

/-- A block's bytes. -/
def blkB (k : GBlk) (w : Bool) : List Int := hdrB k.hdr ++ vi k.txs.length ++ (k.txs.map fun t => txB t (w && hw t)).flatten

def kbz (k : GBlk) (w : Bool) : Nat := 80 + vlen k.txs.length + (k.txs.map (psz w)).sum

theorem blkB_len (k : GBlk) (hh : HWf k.hdr) (ht : ∀ t ∈ k.txs, ∀ x ∈ t.ins, x.hash.length = 32) (w : Bool) : (blkB k w).length = kbz k w := by
  have h1 := flat_sum (fun t => txB t (w && hw t)) (psz w) k.txs (fun t h => txB_psz t (ht t h) w)
  simp only [blkB, List.length_append, h1, vi_len, kbz, hdrB, le_len, hh.lp, hh.lr]

theorem kbz_le (k : GBlk) (w : Bool) (hz : ksz k ≤ 1000000) : kbz k w ≤ 5000000 := by
  have h1 := sum_mono (psz w) (fun g => 4 * tsz g) k.txs k.txs.length (fun x _ => psz_le w x)
  rw [List.take_of_length_le (Nat.le_refl _), sum_four] at h1
  have := vlen_le k.txs.length
  simp only [ksz] at hz
  simp only [kbz]
  omega

set_option maxRecDepth 100000 in
set_option maxHeartbeats 2000000 in
theorem blockBytes {P : Program} (hP : P = Try.prog) (R : RO) (cs : List Value) (k : GBlk) (h : KAt R cs k) (hz : ksz k ≤ 1000000) (w : Bool) : RowP P 80 [.agg cs.toArray, .bool w] R 5 1 (Bs .u8 (blkB k w)) := by
  subst hP
  obtain ⟨a, n, c, rfl, hwf, h3⟩ := h
  obtain ⟨⟨ver, prev, root, time, bits, nonce⟩, txs⟩ := k
  have hwf2 := hwf
  obtain ⟨w1, w2, w3, w4, w5, w6, w7, w8⟩ := hwf2
  simp only at w1 w2 w3 w4 w5 w6 w7 w8 h3
  obtain ⟨e0, e1, e2, e3, e4, e5, e6, e7, e8, e9, e10, e11, e12, e13, e14, e15, e16, e17, e18, e19, e20, e21, e22, e23, e24, e25, e26, e27, e28, e29, e30, e31, rfl⟩ := l32 w2
  obtain ⟨f0, f1, f2, f3, f4, f5, f6, f7, f8, f9, f10, f11, f12, f13, f14, f15, f16, f17, f18, f19, f20, f21, f22, f23, f24, f25, f26, f27, f28, f29, f30, f31, rfl⟩ := l32 w4
  have hl3 : n = txs.length := h3.len
  have hm3 := h3.mx
  unfold maxLen at hm3
  have htx := (latTxs h3)
  simp only [ksz] at hz
  have hs3 := len_sum tsz txs (fun x _ => by have := tsz_pos x; omega)
  refine rowP_vc (fz := []) Try.func80 rfl (by decide) rfl ok80 ?_
  intro P bin cmp cnv neg com bnot beq ofN toN at_ sub_ scmp cat sget ssz ssub elem fld_ hP hA
  conv => cbv
  have o := ofN_ hA n
  refine ⟨[0, 1, 3, 4, 5, 6, 2, 7, 8, 9], [7, 8], mix hP, by kernel_rfl, ?_⟩
  conv => cbv
  have hbh := headerBytes hP R ⟨ver, [e0, e1, e2, e3, e4, e5, e6, e7, e8, e9, e10, e11, e12, e13, e14, e15, e16, e17, e18, e19, e20, e21, e22, e23, e24, e25, e26, e27, e28, e29, e30, e31], [f0, f1, f2, f3, f4, f5, f6, f7, f8, f9, f10, f11, f12, f13, f14, f15, f16, f17, f18, f19, f20, f21, f22, f23, f24, f25, f26, f27, f28, f29, f30, f31], time, bits, nonce⟩ hwf
  refine hbh.call rfl ?_
  intro a0 n0 c0 z0 rs0 hb0 hs0 ⟨hn0, hz0⟩
  have hk0 : n0 = 80 := by rw [hn0]; simp only [hdrB, List.length_append, le_len, w2, w4]
  conv => cbv
  refine ⟨⟨⟨rfl, trivial⟩, hb0.sub⟩, ?_⟩
  have hvl := vlen_le txs.length
  have ev : cnv .u64 (ofN n) = ((txs.length : Nat) : Int) := by rw [o, cnv_u64 hA (by omega)]; omega
  refine (varInt hP R _ txs.length ev (by omega)).call rfl ?_
  intro b2 m2 d2 y2 rs2 hb2 hs2 ⟨hm2, hy2⟩
  have hk2 := hm2
  rw [vi_len] at hk2
  conv => cbv
  obtain ⟨rs0, hbase, hdrop⟩ := hb0.base2 hb2
  refine ⟨n0, z0, _, rs0, _, m2, y2, hbase _ _ _ _, hdrop, hb2.src hs2 (by rw [hy2, ints_len]; omega) (by rw [hy2]; exact ints_one _ _), by omega, by omega, ?_⟩
  clear hbase hdrop rs0
  intro a0 n0 c0 z0 hn3 hz3 hs3
  conv => cbv
  obtain ⟨p1, hp1⟩ : ∃ p1, p1 = hdrB ⟨ver, [e0, e1, e2, e3, e4, e5, e6, e7, e8, e9, e10, e11, e12, e13, e14, e15, e16, e17, e18, e19, e20, e21, e22, e23, e24, e25, e26, e27, e28, e29, e30, e31], [f0, f1, f2, f3, f4, f5, f6, f7, f8, f9, f10, f11, f12, f13, f14, f15, f16, f17, f18, f19, f20, f21, f22, f23, f24, f25, f26, f27, f28, f29, f30, f31], time, bits, nonce⟩ ++ vi txs.length := ⟨_, rfl⟩
  have hn0' : n0 = p1.length := by rw [hp1, List.length_append, ← hn0, ← hm2, hn3]
  have hz0' : z0 = ints .u8 p1 := by rw [hp1, hz3, hz0, hy2, ints_app]
  have hq1 : p1.length ≤ 89 := by omega
  clear hb2 hs2 hm2 hy2 hk2 hs3 ev hn3 hz3 hb0 hn0 hz0 hvl hs0 hk0
  have hn0 := hn0'
  have hz0 := hz0'
  clear hn0' hz0'
  generalize hrs0 : [(⟨a0, n0, c0, 5, 1, z0⟩ : Row)] = rs0
  have hb0 : Base1 rs0 [] a0 n0 c0 5 1 z0 := by rw [← hrs0]; exact Base1.row
  clear hrs0
  refine ⟨Lr, fun x => ⟨[(6, .v (.int .i64 x.i)), (5, .v (.slice x.a x.n x.c)), (1, .v (.bool w)), (2, .p 0 0)], R, [(0, ⟨65, (hcells ⟨ver, [e0, e1, e2, e3, e4, e5, e6, e7, e8, e9, e10, e11, e12, e13, e14, e15, e16, e17, e18, e19, e20, e21, e22, e23, e24, e25, e26, e27, e28, e29, e30, e31], [f0, f1, f2, f3, f4, f5, f6, f7, f8, f9, f10, f11, f12, f13, f14, f15, f16, f17, f18, f19, f20, f21, f22, f23, f24, f25, f26, f27, f28, f29, f30, f31], time, bits, nonce⟩ ++ [Value.slice a n c]).map SV.v⟩)], 1, x.rs⟩,
    fun k x => ∃ j : Nat, x.i = j ∧ j ≤ n ∧ k = n - j ∧ Base1 x.rs [] x.a x.n x.c 5 1 x.zs ∧ Bs .u8 (p1 ++ ((txs.take j).map fun t => txB t (w && hw t)).flatten) x.n x.zs,
    ⟨n, ⟨0, a0, n0, c0, z0, rs0⟩, ⟨⟨rfl, rfl, rfl, rfl, trivial⟩, rfl, ⟨rfl, trivial⟩, rfl, .refl _⟩, 0, rfl, by omega, rfl, hb0, by simpa using hn0, by simpa using hz0⟩, ?_⟩
  clear hb0 hn0 hz0
  rintro k ⟨i, a0, n0, c0, z0, rs0⟩ ⟨j, hi, hj, hk, hb0, hn0, hz0⟩
  simp only at hi hb0 hn0 hz0
  conv => cbv
  by_cases hlt : j < n
  case neg =>
    refine br_f (by rw [o, cmp_lss hA]; simp; omega) ?_
    conv => cbv
    rw [List.take_of_length_le (by omega)] at hn0 hz0
    have hfin : blkB ⟨⟨ver, [e0, e1, e2, e3, e4, e5, e6, e7, e8, e9, e10, e11, e12, e13, e14, e15, e16, e17, e18, e19, e20, e21, e22, e23, e24, e25, e26, e27, e28, e29, e30, e31], [f0, f1, f2, f3, f4, f5, f6, f7, f8, f9, f10, f11, f12, f13, f14, f15, f16, f17, f18, f19, f20, f21, f22, f23, f24, f25, f26, f27, f28, f29, f30, f31], time, bits, nonce⟩, txs⟩ w = p1 ++ (txs.map fun t => txB t (w && hw t)).flatten := by rw [hp1]; rfl
    rw [hfin]
    exact fun _ => hb0.isRow ⟨hn0, hz0⟩
  refine br_t (by rw [o, cmp_lss hA]; simp; omega) ?_
  conv => cbv
  obtain ⟨q, hxq⟩ : ∃ q, txs[j]? = some q := ⟨_, List.getElem?_eq_getElem (by omega)⟩
  have hq := mem_sum tsz (List.mem_of_getElem? hxq)
  have hle : ∀ x ∈ txs, (txB x (w && hw x)).length ≤ 4 * tsz x := fun x hx => by rw [txB_psz x (htx x hx)]; exact psz_le w x
  have hfl := flat_len (fun t => txB t (w && hw t)) (fun g => 4 * tsz g) txs j hle
  rw [sum_four] at hfl
  have hk4 := hle q (List.mem_of_getElem? hxq)
  have hk0 := hn0
  rw [List.length_append] at hk0
  refine ix_at hA h3 j hi hlt ?_
  refine ld_whole hA h3 j hi hxq ?_
  intro cs hcs hin
  have hib := txBytes hP R cs q hin (by omega) w
  generalize Value.agg cs.toArray = vq at hib ⊢
  conv => cbv
  refine hib.call rfl ?_
  intro b4 m4 d4 y4 rs4 hb4 hs4 ⟨hm4, hy4⟩
  rw [← hm4] at hk4
  conv => cbv
  obtain ⟨rs0, hbase, hdrop⟩ := hb0.base2 hb4
  refine ⟨n0, z0, _, rs0, _, m4, y4, hbase _ _ _ _, hdrop, hb4.src hs4 (by rw [hy4, ints_len]; omega) (by rw [hy4]; exact ints_one _ _), by omega, by omega, ?_⟩
  clear hbase hdrop rs0
  intro a5 n5 c5 z5 hn5 hz5 hs5
  conv => cbv
  refine ⟨n - (j + 1), ⟨i + 1, a5, n5, c5, z5, _⟩, by omega, ⟨⟨?_, rfl, rfl, rfl, trivial⟩, rfl, ⟨rfl, trivial⟩, rfl, .refl _⟩, j + 1, by show i + 1 = ((j + 1 : Nat) : Int); omega, by omega, rfl, Base1.row, ?_, ?_⟩
  · rw [add_i64 hA (by omega)]
    rfl
  · show n5 = _
    rw [flat_succ (fun t => txB t (w && hw t)) hxq, ← List.append_assoc, List.length_append, ← hn0, ← hm4, hn5]
  · show z5 = _
    rw [hz5, hz0, hy4, ints_app, flat_succ (fun t => txB t (w && hw t)) hxq, List.append_assoc]

def kwgt (k : GBlk) : Nat := 3 * kbz k false + kbz k true

set_option maxRecDepth 100000 in
set_option maxHeartbeats 1000000 in
theorem kwSpec {P : Program} (hP : P = Try.prog) (R : RO) (cs : List Value) (k : GBlk) (h : KAt R cs k) (hz : ksz k ≤ 1000000) : RetP P 43 [.agg cs.toArray] R fun _ x => ∃ r : Int, x = .int .i64 r ∧ r = (kwgt k : Nat) := by
  subst hP
  have hh := h
  have hb1 := kbz_le k false hz
  have hb2 := kbz_le k true hz
  have hlen : ∀ w, (blkB k w).length = kbz k w := by
    obtain ⟨a, n, c, rfl, hwf, h3⟩ := h
    exact blkB_len k hwf (latTxs h3)
  obtain ⟨b1, b2⟩ : ∃ x y, x = kbz k false ∧ y = kbz k true := ⟨_, _, rfl, rfl⟩
  obtain ⟨a, n, c, rfl, hwf, h3⟩ := h
  obtain ⟨⟨ver, prev, root, time, bits, nonce⟩, txs⟩ := k
  have hwf2 := hwf
  obtain ⟨w1, w2, w3, w4, w5, w6, w7, w8⟩ := hwf2
  simp only at w1 w2 w3 w4 w5 w6 w7 w8 h3
  obtain ⟨e0, e1, e2, e3, e4, e5, e6, e7, e8, e9, e10, e11, e12, e13, e14, e15, e16, e17, e18, e19, e20, e21, e22, e23, e24, e25, e26, e27, e28, e29, e30, e31, rfl⟩ := l32 w2
  obtain ⟨f0, f1, f2, f3, f4, f5, f6, f7, f8, f9, f10, f11, f12, f13, f14, f15, f16, f17, f18, f19, f20, f21, f22, f23, f24, f25, f26, f27, f28, f29, f30, f31, rfl⟩ := l32 w4
  have hl3 : n = txs.length := h3.len
  have hm3 := h3.mx
  unfold maxLen at hm3
  refine retP_vc (fz := []) Try.func43 rfl (by decide) rfl ok43 ?_
  intro P bin cmp cnv neg com bnot beq ofN toN at_ sub_ scmp cat sget ssz ssub elem fld_ hP hA
  conv => cbv
  refine ⟨[0, 4, 1, 2, 3, 5, 6, 7, 8], [], mix hP, by kernel_rfl, ?_⟩
  conv => cbv
  refine (blockBytes hP R _ _ hh hz false).call rfl ?_
  intro b1 m1 d1' y1 rs1 hb1' hs1 ⟨hm1, _⟩
  rw [hlen] at hm1
  conv => cbv
  refine ⟨⟨⟨rfl, trivial⟩, hb1'.sub⟩, ?_⟩
  refine (blockBytes hP R _ _ hh hz true).call rfl ?_
  intro b2 m2 d2 y2 rs2 hb2' hs2 ⟨hm2, _⟩
  rw [hlen] at hm2
  conv => cbv
  refine ⟨⟨⟨rfl, trivial⟩, hb2'.sub⟩, ?_⟩
  intro ρ R'' _ _ _
  refine ⟨_, rfl, ?_⟩
  show bin .add .i64 (bin .mul .i64 3 (ofN m1)) (ofN m2) = ((kwgt _ : Nat) : Int)
  have o1 := ofN_ hA m1
  have o2 := ofN_ hA m2
  have a1 : bin .mul .i64 3 (ofN m1) = 3 * (m1 : Int) := by rw [o1]; exact mul_i64 hA (by omega)
  rw [a1, o2, add_i64 hA (by omega), hm1, hm2, kwgt]
  omega
end Go.Proofs.Ytclkimgpdnldnaa.Tx
