/- A transaction of the text is put together. -/
import Derived.Test.YtnlpjppjhikooaaHxs
set_option linter.unusedSimpArgs false
set_option linter.unusedVariables false
namespace Go.Proofs.Ytnlpjppjhikooaa.Tx
open Go Go.Se Go.Proofs Go.Proofs.Ytnlpjppjhikooaa.Tytx

set_option maxRecDepth 100000 in
theorem copied {P : Program} (hP : P = Try.prog) (R : RO) (a : Option Addr) (n cap : Nat) (xs : List Int) (h : RI R .u8 a n xs) (hn : n ≤ 1000000000000) :
    RetP P 26 [.slice a n cap] R fun R' v => ∃ a' n' c', v = .slice a' n' c' ∧ n' = n ∧ RI R' .u8 a' n' xs ∧ n' ≤ c' := by
  subst hP
  refine retP_vc (fz := []) Try.func26 rfl (by decide) rfl ok26 ?_
  intro P bin cmp cnv neg com bnot beq ofN toN at_ sub_ scmp cat sget ssz ssub elem fld_ hP hA
  conv => cbv
  refine ⟨0, [], _, _, _, n, ints .u8 xs, .own 0 0 _ [] rfl rfl rfl rfl (by decide), .refl _, h.src, by omega, by omega, ?_⟩
  intro a' n' c' zs hn' hz hs
  conv => cbv
  intro ρ R'' hle _ hpr
  exact ⟨a', n', c', rfl, by omega, (hpr _ (List.mem_cons_self ..)).ri (by show n' = _; rw [← h.len]; omega) hs rfl hz h.wf, (hpr _ (List.mem_cons_self ..)).cap_ hs⟩

structure Lc where
  R : RO
  i : Int
  a : Option Addr
  n : Nat
  c : Nat
  zs : List Value
  rs : List Row

set_option maxRecDepth 100000 in
theorem copies {P : Program} (hP : P = Try.prog) (R : RO) (a : Option Addr) (n c : Nat) (xs : List (List Int)) (h : LAt R 1 BAt a n c xs) (hn : n ≤ 1000000000) (hw : ∀ w ∈ xs, w.length ≤ 1000000000) :
    RetP P 66 [.slice a n c] R fun R' v => ∃ a' n' c', v = .slice a' n' c' ∧ LAt R' 1 BAt a' n' c' xs := by
  subst hP
  have hl := h.len
  refine retP_vc (fz := []) Try.func66 rfl (by decide) rfl ok66 ?_
  intro P bin cmp cnv neg com bnot beq ofN toN at_ sub_ scmp cat sget ssz ssub elem fld_ hP hA
  conv => cbv
  have o := ofN_ hA n
  refine ⟨Lc, fun x => ⟨[(0, .v (.slice a n c)), (3, .v (.slice x.a x.n x.c)), (4, .v (.int .i64 x.i))], x.R, [], 0, x.rs⟩,
    fun k x => ∃ i : Nat, x.i = i ∧ i ≤ n ∧ k = n - i ∧ R.le x.R ∧ Base1 x.rs [] x.a x.n x.c 22 1 x.zs ∧ Each BAt x.R x.zs (xs.take i) ∧ x.n = i ∧ (x.n ≠ 0 → x.a.isSome = true),
    ⟨n, ⟨R, 0, none, 0, 0, [], []⟩, ⟨⟨rfl, rfl, rfl, trivial⟩, rfl, trivial, rfl, .refl _⟩, 0, rfl, by omega, rfl, RO.le_refl _, Base1.nil, Each.nil, rfl, fun h => absurd rfl h⟩, ?_⟩
  rintro k ⟨R1, i, a1, n1, c1, zs, rs⟩ ⟨j, hi, hj, hk, hR, hb, he, hn1, hs1⟩
  simp only at hi hR hb he hn1 hs1
  conv => cbv
  by_cases hlt : j < n
  case neg =>
    refine br_f (by rw [o, cmp_lss hA]; simp; omega) ?_
    conv => cbv
    intro ρ R'' hle _ hpr
    rw [List.take_of_length_le (by omega)] at he
    exact ⟨_, _, _, rfl, hb.lat hpr (by omega) hs1 (he.le fun _ _ h => BAt.le hle _ _ h) (by unfold maxLen; omega)⟩
  refine br_t (by rw [o, cmp_lss hA]; simp; omega) ?_
  conv => cbv
  refine ix_at hA h j hi hlt ?_
  obtain ⟨q, hxq⟩ : ∃ q, xs[j]? = some q := ⟨_, List.getElem?_eq_getElem (by omega)⟩
  refine ld_elem hA (h.le hR (BAt.le hR)) j hi hxq ?_
  rintro _ - ⟨b, m, d, rfl, f1, f2⟩
  refine ⟨_, rfl, ?_⟩
  conv => cbv
  have hq := hw q (List.mem_of_getElem? hxq)
  have hm := f1.len
  refine (copied hP R1 b m d q f1 (by omega)).callP rfl ?_
  rintro R2 _ hR2 ⟨b2, m2, d2, rfl, hm2, f3, kc⟩
  conv => cbv
  refine ⟨n1, zs, _, _, _, 1, [.slice b2 m2 d2], hb.base, .refl _, .own 0 0 1 1 _ _ rfl rfl rfl (by simp [Value.oneCell']), by omega, by omega, ?_⟩
  intro a' n' c' zs' hn' hz hs
  conv => cbv
  refine ⟨n - (j + 1), ⟨R2, i + 1, a', n', c', zs', _⟩, by omega, ⟨⟨rfl, rfl, ?_, trivial⟩, rfl, trivial, rfl, .refl _⟩, j + 1, by show i + 1 = ((j + 1 : Nat) : Int); omega, by omega, rfl, RO.le_trans hR hR2, Base1.row, ?_, ?_, hs⟩
  · rw [add_i64 hA (by omega)]
    rfl
  · show Each BAt R2 zs' _
    rw [hz, List.take_add_one, hxq]
    exact (he.le fun _ _ h => BAt.le hR2 _ _ h).app ⟨b2, m2, d2, rfl, f3, by unfold maxLen; omega, kc⟩
  · show n' = j + 1
    omega

set_option maxRecDepth 100000 in
theorem outPoint {P : Program} (hP : P = Try.prog) (R : RO) (hash : List Int) (idx : Int) (hh : hash.length = 32) :
    RetP P 65 [.agg (ints .u8 hash ++ [Value.int .u32 idx]).toArray] R fun _ v => v = .agg (ints .u8 hash ++ [Value.int .u32 idx]).toArray := by
  subst hP
  obtain ⟨e0, e1, e2, e3, e4, e5, e6, e7, e8, e9, e10, e11, e12, e13, e14, e15, e16, e17, e18, e19, e20, e21, e22, e23, e24, e25, e26, e27, e28, e29, e30, e31, rfl⟩ := l32 hh
  clear hh
  refine retP_vc (fz := []) Try.func65 rfl (by decide) rfl ok65 ?_
  intro P bin cmp cnv neg com bnot beq ofN toN at_ sub_ scmp cat sget ssz ssub elem fld_ hP hA
  conv => cbv
  intro ρ R'' _ _ _
  rfl

structure Lt where
  R : RO
  i : Int
  a : Option Addr
  n : Nat
  c : Nat
  zs : List Value
  rs : List Row

set_option maxRecDepth 100000 in
set_option maxHeartbeats 2000000 in
theorem txOf {P : Program} (hP : P = Try.prog) (R : RO) (cs : List Value) (g : GTx) (h : TxAt R cs g) (hz : tsz g ≤ 1000000) : RetP P 48 [.agg cs.toArray] R fun R' v => PAt 4 MsgAt R' [v] g := by
  subst hP
  obtain ⟨a, n, c, a2, n2, cc, rfl, h1, h2, h3, h4⟩ := h
  obtain ⟨ver, ins, outs, lock⟩ := g
  simp only at h1 h2 h3 h4 ⊢
  simp only [tsz] at hz
  have hl3 := h3.len
  have hl4 := h4.len
  have hs3 := len_sum isz ins (fun x _ => by unfold isz; omega)
  have hs4 := len_sum osz outs (fun x _ => by unfold osz; omega)
  refine retP_vc (fz := [42, 73]) Try.func48 rfl (by decide) rfl ok48 ?_
  intro P bin cmp cnv neg com bnot beq ofN toN at_ sub_ scmp cat sget ssz ssub elem fld_ hP hA
  conv => cbv
  have o := ofN_ hA n
  have o2 := ofN_ hA n2
  refine ⟨Lt, fun x => ⟨[(3, .p 1 0), (4, .v (.int .i64 x.i)), (1, .p 0 0)], x.R, [(0, ⟨48, [.v (.int .i32 ver), .v (.slice a n c), .v (.slice a2 n2 cc), .v (.int .u32 lock)]⟩), (1, ⟨102, [.v (.int .i32 ver), .v (.slice x.a x.n x.c), .v (.slice none 0 0), .v (.int .u32 lock)]⟩)], 2, x.rs⟩,
    fun k x => ∃ i : Nat, x.i = i ∧ i ≤ n ∧ k = n - i ∧ R.le x.R ∧ Base1 x.rs [] x.a x.n x.c 98 1 x.zs ∧ Each (PAt 36 InAt) x.R x.zs (ins.take i) ∧ x.n = i ∧ (x.n ≠ 0 → x.a.isSome = true),
    ⟨n, ⟨R, 0, none, 0, 0, [], []⟩, ⟨⟨rfl, rfl, rfl, trivial⟩, rfl, ⟨rfl, rfl, trivial⟩, rfl, .refl _⟩, 0, rfl, by omega, rfl, RO.le_refl _, Base1.nil, Each.nil, rfl, fun h => absurd rfl h⟩, ?_⟩
  rintro k ⟨R1, i, a1, n1, c1, zs, rs⟩ ⟨j, hi, hj, hk, hR, hb, he, hn1, hs1⟩
  simp only at hi hR hb he hn1 hs1
  conv => cbv
  by_cases hlt : j < n
  case neg =>
    refine br_f (by rw [o, cmp_lss hA]; simp; omega) ?_
    conv => cbv
    rw [List.take_of_length_le (by omega)] at he
    refine ⟨Lt, fun x => ⟨[(3, .p 1 0), (6, .v (.int .i64 x.i)), (1, .p 0 0)], x.R, [(0, ⟨48, [.v (.int .i32 ver), .v (.slice a n c), .v (.slice a2 n2 cc), .v (.int .u32 lock)]⟩), (1, ⟨102, [.v (.int .i32 ver), .v (.slice a1 n1 c1), .v (.slice x.a x.n x.c), .v (.int .u32 lock)]⟩)], 2, x.rs⟩,
      fun k x => ∃ i : Nat, x.i = i ∧ i ≤ n2 ∧ k = n2 - i ∧ R1.le x.R ∧ Base1 x.rs rs x.a x.n x.c 138 1 x.zs ∧ Each (PAt 2 OutAt) x.R x.zs (outs.take i) ∧ x.n = i ∧ (x.n ≠ 0 → x.a.isSome = true),
      ⟨n2, ⟨R1, 0, none, 0, 0, [], rs⟩, ⟨⟨rfl, rfl, rfl, trivial⟩, rfl, ⟨rfl, rfl, trivial⟩, rfl, .refl _⟩, 0, rfl, by omega, rfl, RO.le_refl _, Base1.nil, Each.nil, rfl, fun h => absurd rfl h⟩, ?_⟩
    rintro k2 ⟨R2, i2, a3, n3, c3, zs3, rs3⟩ ⟨j2, hi2, hj2, hk2, hR2, hb2, he2, hn3, hs3'⟩
    simp only at hi2 hR2 hb2 he2 hn3 hs3'
    conv => cbv
    by_cases hlt2 : j2 < n2
    case neg =>
      refine br_f (by rw [o2, cmp_lss hA]; simp; omega) ?_
      conv => cbv
      intro ρ R'' hle hpub hpr
      rw [List.take_of_length_le (by omega)] at he2
      refine ⟨⟨ρ 1, 0, none⟩, _, rfl, by rfl, CellsAt.blk (hpub 1 _ rfl), a1, n1, c1, a3, n3, c3, rfl, h1, h2, ?_, ?_⟩
      · exact hb.lat (PubR.rest hb2 hpr) (by show n1 = ins.length; omega) hs1 (he.le fun _ _ h => h.le (RO.le_trans hR2 hle) (InAt.le (RO.le_trans hR2 hle))) (by unfold maxLen; omega)
      · exact hb2.lat hpr (by show n3 = outs.length; omega) hs3' (he2.le fun _ _ h => h.le hle (OutAt.le hle)) (by unfold maxLen; omega)
    refine br_t (by rw [o2, cmp_lss hA]; simp; omega) ?_
    conv => cbv
    refine ⟨[0, 1, 2, 3, 4, 5, 6, 7, 8, 9, 10, 11, 12, 13, 14, 15, 16, 17, 18, 19, 20, 21, 22, 23, 24], [21, 24], mix hP, by kernel_rfl, ?_⟩
    conv => cbv
    have h4' := h4.le (RO.le_trans hR hR2) (OutAt.le (RO.le_trans hR hR2))
    obtain ⟨q, hxq⟩ : ∃ q, outs[j2]? = some q := ⟨_, List.getElem?_eq_getElem (by omega)⟩
    have hq := mem_sum osz (List.mem_of_getElem? hxq)
    have h9 : osz q = 17 + q.pk.length := rfl
    refine ix_at hA h4' j2 hi2 hlt2 ?_
    refine ld_fld hA h4' j2 hi2 hxq 0 ?_
    rintro _ - ⟨b, m, d, rfl, f1, f2, f3⟩
    refine ⟨_, rfl, ?_⟩
    conv => cbv
    refine ix_at hA h4' j2 hi2 hlt2 ?_
    refine ld_fld hA h4' j2 hi2 hxq 1 ?_
    rintro _ - ⟨b, m, d, rfl, f1, f2, f3⟩
    refine ⟨_, rfl, ?_⟩
    conv => cbv
    have hm := f2.len
    refine (copied hP R2 b m d _ f2 (by omega)).callP rfl ?_
    rintro R3 _ hR3 ⟨b3, m3, d3, rfl, hm3, f4, kc⟩
    conv => cbv
    refine ⟨⟨⟨rfl, rfl, trivial⟩, .refl _⟩, ?_⟩
    refine ⟨_, rfl, ?_⟩
    intro R4 bk hR4 hbk
    conv => cbv
    refine ⟨⟨⟨rfl, rfl, trivial⟩, .refl _⟩, ?_⟩
    refine ⟨⟨⟨rfl, rfl, trivial⟩, .refl _⟩, ?_⟩
    refine ⟨n3, zs3, _, _, _, 1, [.pointer (some ⟨bk, 0, none⟩)], hb2.base, .refl _, .own 2 0 1 1 _ _ rfl rfl rfl (by simp [Value.oneCell']), by omega, by omega, ?_⟩
    intro a' n' c' zs' hn' hz' hs'
    conv => cbv
    have hR24 := RO.le_trans hR3 hR4
    refine ⟨n2 - (j2 + 1), ⟨R4, i2 + 1, a', n', c', zs', _⟩, by omega, ⟨⟨rfl, ?_, rfl, trivial⟩, rfl, ⟨rfl, rfl, trivial⟩, rfl, .refl _⟩, j2 + 1, by show i2 + 1 = ((j2 + 1 : Nat) : Int); omega, by omega, rfl, RO.le_trans hR2 hR24, Base1.row, ?_, ?_, hs'⟩
    · rw [add_i64 hA (by omega)]
      rfl
    · show Each (PAt 2 OutAt) R4 zs' _
      rw [hz', List.take_add_one, hxq]
      exact (he2.le fun _ _ h => h.le hR24 (OutAt.le hR24)).app ⟨⟨bk, 0, none⟩, _, rfl, by rfl, CellsAt.blk hbk, b3, m3, d3, rfl, f1, f4.le hR4, by unfold maxLen; omega, kc⟩
    · show n' = j2 + 1
      omega
  refine br_t (by rw [o, cmp_lss hA]; simp; omega) ?_
  conv => cbv
  refine ix_at hA h3 j hi hlt ?_
  obtain ⟨q, hxq⟩ : ∃ q, ins[j]? = some q := ⟨_, List.getElem?_eq_getElem (by omega)⟩
  have hq := mem_sum isz (List.mem_of_getElem? hxq)
  refine ld_whole hA (h3.le hR (InAt.le hR)) j hi hxq ?_
  intro cs hcs hin
  obtain ⟨b, m, d, b2, m2, d2, rfl, g0, g1, g2, g3, g4, g5, g6⟩ := hin
  obtain ⟨hash, idx, script, wit, sq⟩ := q
  simp only [isz] at hq g0 g1 g2 g3 g4 g5 g6
  simp only
  have hop := outPoint hP R1 hash idx g0
  obtain ⟨e0, e1, e2, e3, e4, e5, e6, e7, e8, e9, e10, e11, e12, e13, e14, e15, e16, e17, e18, e19, e20, e21, e22, e23, e24, e25, e26, e27, e28, e29, e30, e31, rfl⟩ := l32 g0
  conv => cbv
  refine ⟨[0, 1, 2, 3, 4, 5, 6, 8, 9, 11, 12, 14, 15, 7, 10, 13, 16, 17, 18, 19, 20, 21, 22], [19, 22], mix hP, by kernel_rfl, ?_⟩
  conv => cbv
  refine hop.callQ rfl ?_
  rintro _ rfl
  conv => cbv
  refine ⟨⟨⟨rfl, rfl, rfl, trivial⟩, .refl _⟩, ?_⟩
  have hm := g4.len
  refine (copied hP R1 b m d script g4 (by omega)).callP rfl ?_
  rintro R2 _ hR2 ⟨b3, m3, d3, rfl, hm3, f3, kc⟩
  conv => cbv
  refine ⟨⟨⟨rfl, rfl, rfl, trivial⟩, .refl _⟩, ?_⟩
  have hw := len_sum wsz wit (fun x _ => by unfold wsz; omega)
  have hl6 := g6.len
  refine (copies hP R2 b2 m2 d2 wit (g6.le hR2 (BAt.le hR2)) (by omega) (fun w hw => by have := mem_sum wsz hw; have h9 : wsz w = 9 + w.length := rfl; omega)).callP rfl ?_
  rintro R3 _ hR3 ⟨b4, m4, d4, rfl, f4⟩
  conv => cbv
  refine ⟨⟨⟨rfl, rfl, rfl, trivial⟩, .refl _⟩, ?_⟩
  refine ⟨_, rfl, ?_⟩
  intro R4 bk hR4 hbk
  conv => cbv
  refine ⟨⟨⟨rfl, rfl, rfl, trivial⟩, .refl _⟩, ?_⟩
  refine ⟨⟨⟨rfl, rfl, rfl, trivial⟩, .refl _⟩, ?_⟩
  refine ⟨n1, zs, _, _, _, 1, [.pointer (some ⟨bk, 0, none⟩)], hb.base, .refl _, .own 3 0 1 1 _ _ rfl rfl rfl (by simp [Value.oneCell']), by omega, by omega, ?_⟩
  intro a' n' c' zs' hn' hz' hs'
  conv => cbv
  have hR14 := RO.le_trans hR2 (RO.le_trans hR3 hR4)
  refine ⟨n - (j + 1), ⟨R4, i + 1, a', n', c', zs', _⟩, by omega, ⟨⟨rfl, ?_, rfl, trivial⟩, rfl, ⟨rfl, rfl, trivial⟩, rfl, .refl _⟩, j + 1, by show i + 1 = ((j + 1 : Nat) : Int); omega, by omega, rfl, RO.le_trans hR hR14, Base1.row, ?_, ?_, hs'⟩
  · rw [add_i64 hA (by omega)]
    rfl
  · show Each (PAt 36 InAt) R4 zs' _
    rw [hz', List.take_add_one, hxq]
    exact (he.le fun _ _ h => h.le hR14 (InAt.le hR14)).app ⟨⟨bk, 0, none⟩, _, rfl, by rfl, CellsAt.blk hbk, b3, m3, d3, b4, m4, d4, rfl, rfl, g1, g2, g3, f3.le (RO.le_trans hR3 hR4), ⟨by unfold maxLen; omega, kc⟩, f4.le hR4 (BAt.le hR4)⟩
  · show n' = j + 1
    omega

/-- A transaction of the package, behind a pointer. -/
def UAt (R : RO) (v : Value) (g : GTx) : Prop := ∃ ad m, v = .pointer (some ad) ∧ CellsAt R ad [m, .pointer none, .pointer none, .pointer none, .int .i64 (-1), .slice none 0 0] ∧ PAt 4 MsgAt R [m] g

set_option maxRecDepth 100000 in
theorem utilTx {P : Program} (hP : P = Try.prog) (R : RO) (cs : List Value) (g : GTx) (h : TxAt R cs g) (hz : tsz g ≤ 1000000) : RetP P 30 [.agg cs.toArray] R fun R' v => UAt R' v g := by
  subst hP
  have hh := h
  obtain ⟨a, n, c, a2, n2, cc, rfl, -⟩ := h
  refine retP_vc (fz := []) Try.func30 rfl (by decide) rfl ok30 ?_
  intro P bin cmp cnv neg com bnot beq ofN toN at_ sub_ scmp cat sget ssz ssub elem fld_ hP hA
  conv => cbv
  refine (txOf hP R _ g hh hz).callP rfl ?_
  rintro R1 v hR1 ⟨ad, ds, hv, h1, h2, h3⟩
  simp only [List.cons.injEq, and_true] at hv
  subst hv
  conv => cbv
  refine callP_in (fz := []) hP hA Try.func47 rfl (by decide) rfl ok47 (by simp [labL, lab]) ?_
  conv => cbv
  intro ρ R'' hle hpub _
  exact ⟨⟨ρ 1, 0, none⟩, _, rfl, CellsAt.blk (hpub 1 _ rfl), ad, ds, rfl, h1, h2.le hle, MsgAt.le hle _ _ h3⟩
end Go.Proofs.Ytnlpjppjhikooaa.Tx
