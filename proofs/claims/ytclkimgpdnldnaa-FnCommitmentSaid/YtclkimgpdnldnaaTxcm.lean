/- The commitment of witnesses. -/
import Derived.Test.YtclkimgpdnldnaaTxcb
set_option linter.unusedSimpArgs false
set_option linter.unusedVariables false
namespace Go.Proofs.Ytclkimgpdnldnaa.Tx
open Go Go.Se Go.Proofs Go.Proofs.Ytclkimgpdnldnaa.Tytc

def good (q : GOut) : Prop := 38 ≤ q.pk.length ∧ q.pk.take 6 = magic

/-- The last output that tells of a commitment. -/
def Com (g : GTx) (is : Bool) (r : List Int) : Prop :=
  (is = true ∧ cb g ∧ ∃ (i : Nat) (q : GOut), g.outs[i]? = some q ∧ good q ∧ (∀ (k : Nat) (q' : GOut), i < k → g.outs[k]? = some q' → ¬ good q') ∧ r = (q.pk.drop 6).take 32) ∨
  (is = false ∧ r = [] ∧ (cb g → ∀ (k : Nat) (q' : GOut), g.outs[k]? = some q' → ¬ good q'))

theorem Com.one {g : GTx} {is is' : Bool} {r r' : List Int} (h : Com g is r) (h' : Com g is' r') : is = is' ∧ r = r' := by
  rcases h with ⟨rfl, hc, i, q, hq, hg, hn, rfl⟩ | ⟨rfl, rfl, hno⟩ <;> rcases h' with ⟨rfl, hc', i', q', hq', hg', hn', rfl⟩ | ⟨rfl, rfl, hno'⟩
  · refine ⟨rfl, ?_⟩
    rcases Nat.lt_trichotomy i i' with hlt | rfl | hlt
    · exact absurd hg' (hn _ _ hlt hq')
    · rw [hq] at hq'
      simp only [Option.some.injEq] at hq'
      rw [hq']
    · exact absurd hg (hn' _ _ hlt hq)
  · exact absurd hg (hno' hc _ _ hq)
  · exact absurd hg' (hno hc' _ _ hq')
  · exact ⟨rfl, rfl⟩

theorem none_more {outs : List GOut} {i : Nat} {q : GOut} (h : ∀ (k : Nat) (q' : GOut), i + 1 ≤ k → outs[k]? = some q' → ¬ good q') (hq : outs[i]? = some q) (hn : ¬ good q) : ∀ (k : Nat) (q' : GOut), i ≤ k → outs[k]? = some q' → ¬ good q' := by
  intro k q' hk hq'
  rcases Nat.eq_or_lt_of_le hk with rfl | hlt
  · rw [hq] at hq'
    simp only [Option.some.injEq] at hq'
    rw [← hq']; exact hn
  · exact h k q' hlt hq'


structure Ld where
  R : RO
  i : Int

set_option maxRecDepth 100000 in
theorem comSpec {P : Program} (hP : P = Try.prog) (R : RO) (cs : List Value) (g : GTx) (h : TxAt R cs g) (hz : tsz g ≤ 1000000) :
    RetP P 24 [.agg cs.toArray] R fun R' v => ∃ a n c is r, v = .tuple #[.slice a n c, .bool is] ∧ RI R' .u8 a n r ∧ n ≤ 100 ∧ Com g is r := by
  subst hP
  have hh := h
  obtain ⟨a, n, c, a2, n2, cc, rfl, h1, h2, h3, h4⟩ := h
  obtain ⟨ver, ins, outs, lock⟩ := g
  simp only [tsz] at h1 h2 h3 h4 hz
  have hl4 : n2 = outs.length := h4.len
  have hs4 := len_sum osz outs (fun x _ => by unfold osz; omega)
  refine retP_vc (fz := []) Try.func24 rfl (by decide) rfl ok24 ?_
  intro P bin cmp cnv neg com bnot beq ofN toN at_ sub_ scmp cat sget ssz ssub elem fld_ hP hA
  conv => cbv
  have o2 := ofN_ hA n2
  refine (cbSpec hP R _ _ hh).callQ rfl ?_
  rintro _ ⟨r, rfl, hr⟩
  conv => cbv
  refine br_of (fun hb => ?_) (fun hb => ?_)
  · conv => cbv
    intro ρ R'' _ _ _
    refine ⟨none, 0, 0, false, [], rfl, RI.nil, by omega, .inr ⟨rfl, rfl, ?_⟩⟩
    intro hc
    rw [bnot_ hA, hr.2 hc] at hb
    cases hb
  rw [bnot_ hA] at hb
  have hcb : cb ⟨ver, ins, outs, lock⟩ := hr.1 (by simpa using hb)
  conv => cbv
  refine ⟨Ld, fun x => ⟨[(4, .v (.int .i64 x.i)), (1, .p 0 0)], x.R, [(0, ⟨32, [.v (.int .i32 ver), .v (.slice a n c), .v (.slice a2 n2 cc), .v (.int .u32 lock)]⟩)], 1, []⟩,
    fun k x => ∃ i : Nat, x.i = (i : Int) - 1 ∧ i ≤ n2 ∧ k = i ∧ R.le x.R ∧ ∀ (k : Nat) (q' : GOut), i ≤ k → outs[k]? = some q' → ¬ good q',
    ⟨n2, ⟨R, bin .sub .i64 (ofN n2) 1⟩, ⟨⟨rfl, rfl, trivial⟩, rfl, ⟨rfl, trivial⟩, rfl, rfl⟩, n2, by show bin .sub .i64 (ofN n2) 1 = (n2 : Int) - 1; rw [o2, sub_i64 hA (by omega)], by omega, rfl, RO.le_refl _,
      fun k q' hk hq => by rw [List.getElem?_eq_none (by omega)] at hq; cases hq⟩, ?_⟩
  rintro k ⟨R1, x⟩ ⟨i0, hi, hi0, hk, hR1, hno⟩
  simp only at hi hR1
  conv => cbv
  by_cases hpos : 0 < i0
  case neg =>
    refine br_f (by rw [cmp_geq hA]; simp; omega) ?_
    conv => cbv
    intro ρ R'' _ _ _
    refine ⟨none, 0, 0, false, [], rfl, RI.nil, by omega, .inr ⟨rfl, rfl, ?_⟩⟩
    intro _ k q' hq
    exact hno k q' (by omega) hq
  obtain ⟨i, rfl⟩ : ∃ i, i0 = i + 1 := ⟨i0 - 1, by omega⟩
  have hxi : x = (i : Int) := by omega
  refine br_t (by rw [cmp_geq hA]; simp; omega) ?_
  conv => cbv
  obtain ⟨q, hxq⟩ : ∃ q, outs[i]? = some q := ⟨_, List.getElem?_eq_getElem (by omega)⟩
  have hq := mem_sum osz (List.mem_of_getElem? hxq)
  have h9 : osz q = 17 + q.pk.length := rfl
  have h4' := h4.le hR1 (OutAt.le hR1)
  refine ix_at hA h4' i hxi (by omega) ?_
  refine ld_fld hA h4' i hxi hxq 1 ?_
  rintro _ - ⟨b, m, d, rfl, f1, f2, f3, f4⟩
  refine ⟨_, rfl, ?_⟩
  have om := ofN_ hA m
  have hm := f2.len
  conv => cbv
  refine ⟨[0, 1, 2, 3, 4, 5, 6, 7, 8], [], mix hP, by kernel_rfl, ?_⟩
  conv => cbv
  by_cases hlen : 38 ≤ m
  case neg =>
    have c1 : cmp .geq (ofN m) 38 = false := by rw [om, cmp_geq hA]; simp; omega
    simp only [c1]
    conv => cbv
    refine ⟨i, ⟨R1, x - 1⟩, by omega, ⟨⟨?_, rfl, trivial⟩, rfl, ⟨rfl, trivial⟩, rfl, rfl⟩, i, by show x - 1 = (i : Int) - 1; omega, by omega, rfl, hR1, none_more hno hxq (fun hg => by have := hg.1; omega)⟩
    rw [sub_i64 hA (by omega)]
    rfl
  have c1 : cmp .geq (ofN m) 38 = true := by rw [om, cmp_geq hA]; simp; omega
  simp only [c1]
  conv => cbv
  refine ⟨0, 6, rfl, rfl, by omega, by omega, ?_⟩
  intro a' n' c' hn' hc' ha'
  have f5 := f2.part' (l := 0) (m := 6) (by omega) (by omega) hn' f4 ha'
  conv => cbv
  refine (magicS hP R1).callP rfl ?_
  rintro R2 _ hR2 ⟨am, cm, rfl, hmg⟩
  conv => cbv
  refine ⟨⟨⟨rfl, trivial⟩, rfl⟩, ?_⟩
  refine (sameS hP R2 a' am n' 6 c' cm _ _ (f5.le hR2) hmg (by omega) (by omega)).callQ rfl ?_
  rintro _ ⟨r2, rfl, hr2⟩
  conv => cbv
  refine ⟨⟨⟨rfl, trivial⟩, rfl⟩, ?_⟩
  have hgood : r2 = true ↔ good q := hr2.trans ⟨fun h => ⟨by omega, by simpa using h⟩, fun h => by simpa using h.2⟩
  refine br_of (fun hb2 => ?_) (fun hb2 => ?_)
  · conv => cbv
    refine ⟨6, 38, rfl, rfl, by omega, by omega, ?_⟩
    intro a'' n'' c'' hn'' hc'' ha''
    have f6 := (f2.le hR2).part' (l := 6) (m := 38) (by omega) (by omega) hn'' f4 ha''
    conv => cbv
    refine ⟨0, [], _, _, n'', _, .own 1 0 _ [] rfl rfl rfl rfl (by decide), f6.src, by omega, by omega, ?_⟩
    intro a3 n3 c3 zs hn3 hz3 hs3
    conv => cbv
    intro ρ R'' hle _ hpr
    refine ⟨a3, n3, c3, true, _, rfl, (hpr _ (List.mem_cons_self ..)).ri (by show n3 = _; rw [← f6.len]; omega) hs3 rfl hz3 f6.wf, by omega, .inl ⟨rfl, hcb, i, q, hxq, hgood.1 hb2, fun k q' hk hq => hno k q' hk hq, rfl⟩⟩
  · conv => cbv
    refine ⟨i, ⟨R2, x - 1⟩, by omega, ⟨⟨?_, rfl, trivial⟩, rfl, ⟨rfl, trivial⟩, rfl, rfl⟩, i, by show x - 1 = (i : Int) - 1; omega, by omega, rfl, RO.le_trans hR1 hR2, none_more hno hxq (fun hg => by rw [hgood.2 hg] at hb2; cases hb2)⟩
    rw [sub_i64 hA (by omega)]
    rfl

set_option maxRecDepth 100000 in
theorem comImpl {P : Program} (hP : P = Try.prog) (R : RO) (v : Value) (g : GTx) (h : UAt R v g) (hz : tsz g ≤ 1000000) :
    RetP P 61 [v] R fun R' v => ∃ a n c is r, v = .tuple #[.slice a n c, .bool is] ∧ RI R' .u8 a n r ∧ n ≤ 100 ∧ Com g is r := by
  subst hP
  have hu := h
  obtain ⟨ad, m0, rfl, k1, ad2, ds, hm, k2, k3, a, n, c, a2, n2, cc, rfl, h1, h2, h3, h4⟩ := h
  simp only [List.cons.injEq, and_true] at hm
  subst hm
  obtain ⟨ver, ins, outs, lock⟩ := g
  simp only [tsz] at h1 h2 h3 h4 hz k3
  have hl4 : n2 = outs.length := h4.len
  have hs4 := len_sum osz outs (fun x _ => by unfold osz; omega)
  refine retP_vc (fz := []) Try.func61 rfl (by decide) rfl ok61 ?_
  intro P bin cmp cnv neg com bnot beq ofN toN at_ sub_ scmp cat sget ssz ssub elem fld_ hP hA
  conv => cbv
  have o2 := ofN_ hA n2
  refine (cbImpl hP R _ _ hu).callQ rfl ?_
  rintro _ ⟨r, rfl, hr⟩
  conv => cbv
  refine br_of (fun hb => ?_) (fun hb => ?_)
  · conv => cbv
    intro ρ R'' _ _ _
    refine ⟨none, 0, 0, false, [], rfl, RI.nil, by omega, .inr ⟨rfl, rfl, ?_⟩⟩
    intro hc
    rw [bnot_ hA, hr.2 hc] at hb
    cases hb
  rw [bnot_ hA] at hb
  have hcb : cb ⟨ver, ins, outs, lock⟩ := hr.1 (by simpa using hb)
  conv => cbv
  refine callP_in (fz := []) hP hA Try.func83 rfl (by decide) rfl Tytx.ok83 (by simp [labL, lab]) ?_
  conv => cbv
  refine ld_at hA k1 0 rfl ?_
  conv => cbv
  refine ld_at hA k3 2 rfl ?_
  conv => cbv
  refine ⟨Ld, fun x => ⟨[(5, .v (.int .i64 x.i)), (4, .v (.pointer (some ad2)))], x.R, [], 0, []⟩,
    fun k x => ∃ i : Nat, x.i = (i : Int) - 1 ∧ i ≤ n2 ∧ k = i ∧ R.le x.R ∧ ∀ (k : Nat) (q' : GOut), i ≤ k → outs[k]? = some q' → ¬ good q',
    ⟨n2, ⟨R, bin .sub .i64 (ofN n2) 1⟩, ⟨⟨rfl, rfl, trivial⟩, rfl, trivial, rfl, rfl⟩, n2, by show bin .sub .i64 (ofN n2) 1 = (n2 : Int) - 1; rw [o2, sub_i64 hA (by omega)], by omega, rfl, RO.le_refl _,
      fun k q' hk hq => by rw [List.getElem?_eq_none (by omega)] at hq; cases hq⟩, ?_⟩
  rintro k ⟨R1, x⟩ ⟨i0, hi, hi0, hk, hR1, hno⟩
  simp only at hi hR1
  conv => cbv
  by_cases hpos : 0 < i0
  case neg =>
    refine br_f (by rw [cmp_geq hA]; simp; omega) ?_
    conv => cbv
    intro ρ R'' _ _ _
    refine ⟨none, 0, 0, false, [], rfl, RI.nil, by omega, .inr ⟨rfl, rfl, ?_⟩⟩
    intro _ k q' hq
    exact hno k q' (by omega) hq
  obtain ⟨i, rfl⟩ : ∃ i, i0 = i + 1 := ⟨i0 - 1, by omega⟩
  have hxi : x = (i : Int) := by omega
  refine br_t (by rw [cmp_geq hA]; simp; omega) ?_
  conv => cbv
  obtain ⟨q, hxq⟩ : ∃ q, outs[i]? = some q := ⟨_, List.getElem?_eq_getElem (by omega)⟩
  have hq := mem_sum osz (List.mem_of_getElem? hxq)
  have h9 : osz q = 17 + q.pk.length := rfl
  refine ld_at hA (k3.le hR1) 2 rfl ?_
  conv => cbv
  refine ix_at hA h4 i hxi (by omega) ?_
  obtain ⟨ad3, b, m, d, hc3, f2, f3, f4, hpt⟩ : ∃ ad3 b m d, CellsAt R ad3 [.int .i64 q.value, .slice b m d] ∧ RI R .u8 b m q.pk ∧ m ≤ maxLen ∧ m ≤ d ∧ ∃ ad0, a2 = some ad0 ∧ CellsAt R (ad0.add (i * 1)) [.pointer (some ad3)] := by
    obtain ⟨ad0, cs, e1, e2, e3, ad3, ds3, rfl, -, hc3, b, m, d, rfl, -, f2, f3, f4⟩ := h4.at_ i q hxq
    exact ⟨ad3, b, m, d, hc3, f2, f3, f4, ad0, e1, e3⟩
  obtain ⟨ad0, rfl, hpt⟩ := hpt
  have om := ofN_ hA m
  have hm := f2.len
  have ldp : ∀ {R2 : RO} {rs : List Row} {K : Value → Prop}, R.le R2 → K (.pointer (some ad3)) → LoadP R2 rs (elem (some ad0) x 1) false 1 K := fun hl hk => by
    refine ⟨_, .inl ?_, hk⟩
    rw [elem_is hA]
    have := (hpt.le hl) 0 _ rfl
    show rcell _ (ad0.add (x.toNat * 1)) = _
    rw [hxi]
    simpa [Addr.add] using this
  refine ldp hR1 ?_
  conv => cbv
  refine ld_at hA (hc3.le hR1) 1 rfl ?_
  conv => cbv
  by_cases hlen : 38 ≤ m
  case neg =>
    have c1 : cmp .geq (ofN m) 38 = false := by rw [om, cmp_geq hA]; simp; omega
    simp only [c1]
    conv => cbv
    refine ⟨i, ⟨R1, x - 1⟩, by omega, ⟨⟨?_, rfl, trivial⟩, rfl, trivial, rfl, rfl⟩, i, by show x - 1 = (i : Int) - 1; omega, by omega, rfl, hR1, none_more hno hxq (fun hg => by have := hg.1; omega)⟩
    rw [sub_i64 hA (by omega)]
    rfl
  have c1 : cmp .geq (ofN m) 38 = true := by rw [om, cmp_geq hA]; simp; omega
  simp only [c1]
  conv => cbv
  refine (magicI hP R1).callP rfl ?_
  rintro R2 _ hR2 ⟨am, cm, rfl, hmg⟩
  conv => cbv
  have hR02 := RO.le_trans hR1 hR2
  refine (hasPrefix hP R2 b am m 6 d cm _ _ (f2.le hR02) hmg f4).callQ rfl ?_
  rintro _ ⟨r2, rfl, hr2⟩
  conv => cbv
  have hgood : r2 = true ↔ good q := hr2.trans ⟨fun h => ⟨by omega, h.2⟩, fun h => ⟨by show 6 ≤ _; omega, h.2⟩⟩
  refine br_of (fun hb2 => ?_) (fun hb2 => ?_)
  · conv => cbv
    refine (magicI hP R2).callP rfl ?_
    rintro R3 _ hR3 ⟨am2, cm2, rfl, -⟩
    conv => cbv
    have hR03 := RO.le_trans hR02 hR3
    refine ld_at hA (k3.le hR03) 2 rfl ?_
    conv => cbv
    refine ix_at hA h4 i hxi (by omega) ?_
    refine ldp hR03 ?_
    conv => cbv
    refine ld_at hA (hc3.le hR03) 1 rfl ?_
    conv => cbv
    refine ⟨6, 38, by rw [ofN_ hA]; rfl, rfl, by omega, by omega, ?_⟩
    intro a'' n'' c'' hn'' hc'' ha''
    have f6 := (f2.le hR03).part' (l := 6) (m := 38) (by omega) (by omega) hn'' f4 ha''
    conv => cbv
    intro ρ R'' hle _ hpr
    exact ⟨a'', n'', c'', true, _, rfl, f6.le hle, by omega, .inl ⟨rfl, hcb, i, q, hxq, hgood.1 hb2, fun k q' hk hq => hno k q' hk hq, rfl⟩⟩
  · conv => cbv
    refine ⟨i, ⟨R2, x - 1⟩, by omega, ⟨⟨?_, rfl, trivial⟩, rfl, trivial, rfl, rfl⟩, i, by show x - 1 = (i : Int) - 1; omega, by omega, rfl, hR02, none_more hno hxq (fun hg => by rw [hgood.2 hg] at hb2; cases hb2)⟩
    rw [sub_i64 hA (by omega)]
    rfl

set_option maxRecDepth 100000 in
theorem comThin {P : Program} (hP : P = Try.prog) (R : RO) (cs : List Value) (g : GTx) (h : TxAt R cs g) (hz : tsz g ≤ 1000000) :
    RetP P 25 [.agg cs.toArray] R fun R' v => ∃ a n c is r, v = .tuple #[.slice a n c, .bool is] ∧ RI R' .u8 a n r ∧ n ≤ 100 ∧ Com g is r := by
  subst hP
  have hh := h
  obtain ⟨a, n, c, a2, n2, cc, rfl, -⟩ := h
  refine retP_vc (fz := []) Try.func25 rfl (by decide) rfl ok25 ?_
  intro P bin cmp cnv neg com bnot beq ofN toN at_ sub_ scmp cat sget ssz ssub elem fld_ hP hA
  conv => cbv
  refine (utilTx hP R _ g hh hz).callP rfl ?_
  rintro R1 v hR1 hu
  conv => cbv
  refine (comImpl hP R1 v g hu hz).callP rfl ?_
  rintro R2 _ hR2 ⟨a1, n1, c1, is, r, rfl, h1, h2, h3⟩
  conv => cbv
  refine (copied hP R2 a1 n1 c1 r h1 (by omega)).callP rfl ?_
  rintro R3 _ hR3 ⟨a3, n3, c3, rfl, h4, h5, -⟩
  conv => cbv
  intro ρ R'' hle _ _
  exact ⟨a3, n3, c3, is, r, rfl, h5.le hle, by omega, h3⟩


set_option maxRecDepth 100000 in
theorem law8 (R : RO) (cs : List Value) (g : GTx) (h : TxAt R cs g) : RetP Try.prog 8 [.agg cs.toArray] R fun _ v => v = .bool true := by
  have hh := h
  obtain ⟨a, n, c, a2, n2, cc, rfl, -⟩ := h
  refine retP_vc (fz := []) Try.func8 rfl (by decide) rfl ok8 ?_
  intro P bin cmp cnv neg com bnot beq ofN toN at_ sub_ scmp cat sget ssz ssub elem fld_ hP hA
  conv => cbv
  refine (fits2 hP R _ g hh).callQ rfl ?_
  rintro _ ⟨b, rfl⟩
  conv => cbv
  refine br_of (fun _ => ?_) (fun _ => ?_)
  · conv => cbv
    intro ρ R'' _ _ _
    rfl
  conv => cbv
  refine (txSize hP R _ g hh).callQ rfl ?_
  rintro _ ⟨z, rfl, hz⟩
  conv => cbv
  by_cases d1 : z > 100000
  · refine br_t (by rw [cmp_gtr hA]; simp; omega) ?_
    conv => cbv
    intro ρ R'' _ _ _
    rfl
  refine br_f (by rw [cmp_gtr hA]; simp; omega) ?_
  conv => cbv
  have hzs : tsz g ≤ 1000000 := by
    rw [hz] at d1
    unfold capn at d1
    split at d1 <;> omega
  refine (comSpec hP R _ g hh hzs).callP rfl ?_
  rintro R1 _ hR1 ⟨a1, n1, c1, is, r, rfl, e1, e2, e3⟩
  conv => cbv
  refine (comThin hP R1 _ g (TxAt.le hR1 _ _ hh) hzs).callP rfl ?_
  rintro R2 _ hR2 ⟨a3, n3, c3, is', r', rfl, e4, e5, e6⟩
  conv => cbv
  obtain ⟨rfl, rfl⟩ := e3.one e6
  have cbe : beq is is = true := by rw [beq_ hA]; simp
  simp only [cbe]
  conv => cbv
  cases is with
  | false =>
    have cb2 : bnot false = true := by rw [bnot_ hA]; rfl
    simp only [cb2]
    conv => cbv
    intro ρ R'' _ _ _
    rfl
  | true =>
    have cb2 : bnot true = false := by rw [bnot_ hA]; rfl
    simp only [cb2]
    conv => cbv
    refine (sameL hP R2 a3 a1 n3 n1 c3 c1 r r e4 (e1.le hR2) (by omega) (by omega)).callQ rfl ?_
    rintro _ ⟨r2, rfl, hr2⟩
    obtain rfl : r2 = true := hr2.2 rfl
    conv => cbv
    intro ρ R'' _ _ _
    rfl
end Go.Proofs.Ytclkimgpdnldnaa.Tx
