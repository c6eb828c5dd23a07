/- What a script pushes: the law. -/
import Derived.Test.YtinbaelincgemaaTki
set_option linter.unusedSimpArgs false
set_option linter.unusedVariables false
namespace Go.Proofs.Ytinbaelincgemaa.Tk
open Go Go.Se Go.Proofs Go.Proofs.Ytinbaelincgemaa.Tytok

/-- What tokens push. -/
def pushedOf (l : List Tok) : List (List Int) := (l.filter fun t => decide (t.op ≤ 78)).map Tok.data

theorem pushed_snoc (l : List Tok) (t : Tok) : pushedOf (l ++ [t]) = if t.op ≤ 78 then pushedOf l ++ [t.data] else pushedOf l := by
  unfold pushedOf
  rw [List.filter_append, List.map_append]
  by_cases h : t.op ≤ 78
  · simp [h]
  · simp [h]

theorem pushed_len (l : List Tok) : (pushedOf l).length ≤ l.length := by
  unfold pushedOf
  rw [List.length_map]
  exact List.length_filter_le _ _

structure Lv where
  R : RO
  off : Int
  pos : Int
  op : Value
  d : Value
  a : Option Addr
  n : Nat
  c : Nat
  zs : List Value
  rs : List Row


set_option maxRecDepth 100000 in
set_option maxHeartbeats 4000000 in
theorem pushedPkg {P : Program} (hP : P = Try.prog) (hOp : OpSpec Try.prog) (R : RO) (a : Option Addr) (n c : Nat) (xs : List Int) (h : RI R .u8 a n xs) (hn : n ≤ 100000) (hc : n ≤ c) :
    RetP P 42 [.slice a n c] R fun R' v => ∃ l p a1 n1 c1 er, v = .tuple #[.slice a1 n1 c1, er] ∧ Toks xs l p ∧
      ((p = xs.length ∧ er = .nilIface ∧ LAt R' 1 BA a1 n1 c1 (pushedOf l)) ∨ (p < xs.length ∧ stepT (xs.drop p) = none ∧ a1 = none ∧ n1 = 0 ∧ ∃ s, er = .iface 119 (.agg #[.int .i64 27, .string s]))) := by
  subst hP
  have hl := h.len
  refine retP_vc (fz := []) Try.func42 rfl (by decide) rfl ok42 ?_
  intro P bin cmp cnv neg com bnot beq ofN toN at_ sub_ scmp cat sget ssz ssub elem fld_ hP hA
  conv => cbv
  have hOp' : OpSpec P := by rw [hP]; exact hOp
  refine callP_in (fz := []) hP hA Try.func35 rfl (by decide) rfl ok35 (by simp [labL, lab]) ?_
  conv => cbv
  refine br_f (by rw [cmp_neq hA]; rfl) ?_
  conv => cbv
  refine ⟨Lv, fun x => ⟨[(5, .p 1 0), (4, .v (.slice x.a x.n x.c))], x.R, [(1, ⟨79, [.v (.slice a n c), .v (.int .u16 0), .v (.int .i32 x.off), .v (.int .i32 x.pos), .v x.op, .v x.d, .v .nilIface]⟩)], 2, x.rs⟩,
    fun k x => ∃ (p : Nat) (l : List Tok), x.off = p ∧ p ≤ xs.length ∧ k = xs.length - p ∧ Toks xs l p ∧ R.le x.R ∧ -1 ≤ x.pos ∧ x.pos < p ∧ (∀ cs, x.op ≠ .agg cs) ∧ (∀ cs, x.d ≠ .agg cs) ∧ Base1 x.rs [] x.a x.n x.c 22 1 x.zs ∧ Each BA x.R x.zs (pushedOf l) ∧ x.n = (pushedOf l).length ∧ (x.n ≠ 0 → x.a.isSome = true),
    ⟨xs.length, ⟨R, 0, -1, .pointer none, .slice none 0 0, none, 0, 0, [], []⟩, ⟨⟨rfl, rfl, trivial⟩, rfl, ⟨rfl, trivial⟩, rfl, .refl _⟩, 0, [], rfl, by omega, rfl, .nil, RO.le_refl _, Int.le_refl (-1), (by decide : (-1 : Int) < ((0 : Nat) : Int)), fun cs h => (by cases h), fun cs h => (by cases h), Base1.nil, Each.nil, rfl, fun h => absurd rfl h⟩, ?_⟩
  rintro k ⟨R1, off, pos, opv, dv, a1, n1, c1, zs, rs⟩ ⟨p, l, hoff, hp, hk, ht, hR1, hpos, hpos2, hov, hdv, hb, he, hn1, hs1⟩
  simp only at hoff hR1 hpos hpos2 hov hdv hb he hn1 hs1
  have hpl := pushed_len l
  have htl := ht.le
  conv => cbv
  refine CallP.lend (next hP hOp' R1 a n c xs (h.le hR1) hn hc p off pos hoff hp ⟨hpos, hpos2⟩ opv dv hov hdv) rfl rfl ?_
  intro R2 hp' nx' rs' r hR2 hout
  rcases hout () with ⟨op, d, k', ad, s, a7, n7, c7, off', hx, hst, rfl, ho, hf, hcc, h7, hiff⟩ | ⟨off', pos', op, d, er, rfl, hf, hend⟩
  case inr =>
    refine ⟨_, _, _, hf, rfl, rfl, ?_⟩
    conv => cbv
    refine callP_in (fz := []) hP hA Try.func41 rfl (by decide) rfl ok41 (by simp [labL, lab]) ?_
    conv => cbv
    rcases hend with ⟨hpe, rfl⟩ | ⟨hpl, hst, s, rfl⟩
    · conv => cbv
      refine br_f (by rw [bnot_ hA]; rfl) ?_
      conv => cbv
      intro ρ R'' hle _ hpr
      refine ⟨l, p, a1, n1, c1, _, rfl, ht, .inl ⟨hpe, rfl, hb.lat hpr hn1 hs1 (he.le fun _ _ h => BA.le (RO.le_trans hR2 hle) _ _ h) (by unfold maxLen; omega)⟩⟩
    · conv => cbv
      refine br_t (by rw [bnot_ hA]; rfl) ?_
      conv => cbv
      intro ρ R'' hle _ hpr
      exact ⟨l, p, none, 0, 0, _, rfl, ht, .inr ⟨hpl, hst, rfl, rfl, s, rfl⟩⟩
  refine ⟨_, _, _, hf, rfl, rfl, ?_⟩
  conv => cbv
  have hto := ht.snoc hx hst
  have hle := hto.le
  have hks := stepT_le hst
  have hop := wf_u8 (h.wf op (List.mem_of_getElem? hx))
  have hdl : (xs.drop p).length = xs.length - p := by simp
  have hl7 := h7.len
  have hps := pushed_snoc l ⟨op, d, p⟩
  simp only at hps
  refine callP_in (fz := []) hP hA Try.func38 rfl (by decide) rfl ok38 (by simp [labL, lab]) ?_
  conv => cbv
  cases a7 with
  | some ad7 =>
    have hop2 := hiff.1 rfl
    rw [if_pos (by omega)] at hps
    conv => cbv
    refine br_t (by rw [bnot_ hA]; rfl) ?_
    conv => cbv
    refine callP_in (fz := []) hP hA Try.func38 rfl (by decide) rfl ok38 (by simp [labL, lab]) ?_
    conv => cbv
    refine ⟨n1, zs, _, _, _, 1, [.slice (some ad7) n7 c7], hb.base, .refl _, .own _ _ _ _ _ _ rfl rfl rfl (by simp [Value.oneCell']), by omega, by omega, ?_⟩
    intro a4 n4 c4 z4 hn4 hz4 hs4
    conv => cbv
    refine ⟨xs.length - (p + k'), ⟨R2, off', pos + 1, .pointer (some ad), _, _, _, _, _, _⟩, by omega, ⟨⟨rfl, rfl, trivial⟩, rfl, ⟨rfl, trivial⟩, rfl, .refl _⟩, p + k', _, ho, by omega, rfl, hto, RO.le_trans hR1 hR2, by show -1 ≤ pos + 1; omega, by show pos + 1 < ((p + k' : Nat) : Int); omega, fun cs h => (by cases h), fun cs h => (by cases h), Base1.row, ?_, ?_, ?_⟩
    · show Each BA R2 z4 _
      rw [hz4, hps]
      exact (he.le fun _ _ h => BA.le hR2 _ _ h).app ⟨some ad7, n7, c7, rfl, h7, by omega⟩
    · show n4 = _
      rw [hps, List.length_append, hn4, hn1]
      rfl
    · exact hs4
  | none =>
    have hop2 : ¬ (1 ≤ op ∧ op ≤ 78) := fun hh => by have := hiff.2 hh; cases this
    conv => cbv
    refine br_f (by rw [bnot_ hA]; rfl) ?_
    conv => cbv
    refine callP_in (fz := []) hP hA Try.func37 rfl (by decide) rfl ok37 (by simp [labL, lab]) ?_
    conv => cbv
    refine ld_at hA hcc 0 rfl ?_
    conv => cbv
    by_cases hz : op = 0
    · rw [if_pos (by omega)] at hps
      refine br_t (by rw [cmp_eql hA]; simp; omega) ?_
      conv => cbv
      refine ⟨n1, zs, _, _, _, 1, [.slice none 0 0], hb.base, .refl _, .own _ _ _ _ _ _ rfl rfl rfl (by simp [Value.oneCell']), by omega, by omega, ?_⟩
      intro a4 n4 c4 z4 hn4 hz4 hs4
      conv => cbv
      have hd0 : d = [] := by
        rcases Nat.eq_zero_or_pos n7 with h0 | h0
        · exact List.eq_nil_of_length_eq_zero (by omega)
        · have := (h7.at_ 0 (by omega) (by omega)).1; cases this
      refine ⟨xs.length - (p + k'), ⟨R2, off', pos + 1, .pointer (some ad), _, _, _, _, _, _⟩, by omega, ⟨⟨rfl, rfl, trivial⟩, rfl, ⟨rfl, trivial⟩, rfl, .refl _⟩, p + k', _, ho, by omega, rfl, hto, RO.le_trans hR1 hR2, by show -1 ≤ pos + 1; omega, by show pos + 1 < ((p + k' : Nat) : Int); omega, fun cs h => (by cases h), fun cs h => (by cases h), Base1.row, ?_, ?_, ?_⟩
      · show Each BA R2 z4 _
        rw [hz4, hps, hd0]
        exact (he.le fun _ _ h => BA.le hR2 _ _ h).app ⟨none, 0, 0, rfl, RI.nil, by omega⟩
      · show n4 = _
        rw [hps, List.length_append, hn4, hn1]
        rfl
      · exact hs4
    · rw [if_neg (by omega)] at hps
      refine br_f (by rw [cmp_eql hA]; simp; omega) ?_
      conv => cbv
      refine ⟨xs.length - (p + k'), ⟨R2, off', pos + 1, .pointer (some ad), _, _, _, _, _, _⟩, by omega, ⟨⟨rfl, rfl, trivial⟩, rfl, ⟨rfl, trivial⟩, rfl, .refl _⟩, p + k', _, ho, by omega, rfl, hto, RO.le_trans hR1 hR2, by show -1 ≤ pos + 1; omega, by show pos + 1 < ((p + k' : Nat) : Int); omega, fun cs h => (by cases h), fun cs h => (by cases h), hb, ?_, ?_, ?_⟩
      · show Each BA R2 zs _
        rw [hps]
        exact he.le fun _ _ h => BA.le hR2 _ _ h
      · show n1 = _
        rw [hps, hn1]
      · exact hs1

structure Lc where
  R : RO
  i : Int
  a : Option Addr
  n : Nat
  c : Nat
  zs : List Value
  rs : List Row

set_option maxRecDepth 100000 in
theorem copies {P : Program} (hP : P = Try.prog) (R : RO) (a : Option Addr) (n c : Nat) (xs : List (List Int)) (h : LAt R 1 BA a n c xs) (hn : n ≤ 1000000000) :
    RetP P 43 [.slice a n c] R fun R' v => ∃ a' n' c', v = .slice a' n' c' ∧ LAt R' 1 BA a' n' c' xs := by
  subst hP
  have hl := h.len
  refine retP_vc (fz := []) Try.func43 rfl (by decide) rfl ok43 ?_
  intro P bin cmp cnv neg com bnot beq ofN toN at_ sub_ scmp cat sget ssz ssub elem fld_ hP hA
  conv => cbv
  have o := ofN_ hA n
  refine ⟨Lc, fun x => ⟨[(0, .v (.slice a n c)), (3, .v (.slice x.a x.n x.c)), (4, .v (.int .i64 x.i))], x.R, [], 0, x.rs⟩,
    fun k x => ∃ i : Nat, x.i = i ∧ i ≤ n ∧ k = n - i ∧ R.le x.R ∧ Base1 x.rs [] x.a x.n x.c 22 1 x.zs ∧ Each BA x.R x.zs (xs.take i) ∧ x.n = i ∧ (x.n ≠ 0 → x.a.isSome = true),
    ⟨n, ⟨R, 0, none, 0, 0, [], []⟩, ⟨⟨rfl, rfl, rfl, trivial⟩, rfl, trivial, rfl, .refl _⟩, 0, rfl, by omega, rfl, RO.le_refl _, Base1.nil, Each.nil, rfl, fun h => absurd rfl h⟩, ?_⟩
  rintro k ⟨R1, i, a1, n1, c1, zs, rs⟩ ⟨j, hi, hj, hk, hR, hb, he, hn1, hs1⟩
  simp only at hi hR hb he hn1 hs1
  conv => cbv
  by_cases hlt : j < n
  case neg =>
    refine br_f (by rw [o, cmp_lss hA]; simp; omega) ?_
    conv => cbv
    intro ρ R'' hle _ hpr
    rw [List.take_of_length_le (by omega)] at he
    exact ⟨_, _, _, rfl, hb.lat hpr (by omega) hs1 (he.le fun _ _ h => BA.le hle _ _ h) (by unfold maxLen; omega)⟩
  refine br_t (by rw [o, cmp_lss hA]; simp; omega) ?_
  conv => cbv
  refine ix_at hA h j hi hlt ?_
  obtain ⟨q, hxq⟩ : ∃ q, xs[j]? = some q := ⟨_, List.getElem?_eq_getElem (by omega)⟩
  refine ld_elem hA (h.le hR (BA.le hR)) j hi hxq ?_
  rintro _ - ⟨b, m, d, rfl, f1, f2⟩
  refine ⟨_, rfl, ?_⟩
  conv => cbv
  refine (copied hP R1 b m d q f1 (by omega)).callP rfl ?_
  rintro R2 _ hR2 ⟨b2, m2, d2, rfl, hm2, f3⟩
  conv => cbv
  refine ⟨n1, zs, _, _, _, 1, [.slice b2 m2 d2], hb.base, .refl _, .own 0 0 1 1 _ _ rfl rfl rfl (by simp [Value.oneCell']), by omega, by omega, ?_⟩
  intro a' n' c' zs' hn' hz hs
  conv => cbv
  refine ⟨n - (j + 1), ⟨R2, i + 1, a', n', c', zs', _⟩, by omega, ⟨⟨rfl, rfl, ?_, trivial⟩, rfl, trivial, rfl, .refl _⟩, j + 1, by show i + 1 = ((j + 1 : Nat) : Int); omega, by omega, rfl, RO.le_trans hR hR2, Base1.row, ?_, ?_, hs⟩
  · rw [add_i64 hA (by omega)]
    rfl
  · show Each BA R2 zs' _
    rw [hz, List.take_add_one, hxq]
    exact (he.le fun _ _ h => BA.le hR2 _ _ h).app ⟨b2, m2, d2, rfl, f3, by omega⟩
  · show n' = j + 1
    omega
end Go.Proofs.Ytinbaelincgemaa.Tk
