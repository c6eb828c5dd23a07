/- A script on one line, by the package. -/
import Derived.Test.YthhlbpahndfdhaaDsx
import Derived.Test.YthhlbpahndfdhaaDso
import Derived.Test.YthhlbpahndfdhaaTydg
set_option linter.unusedSimpArgs false
set_option linter.unusedVariables false
namespace Go.Proofs.Ythhlbpahndfdhaa.Ds
open Go Go.Se Go.Proofs Go.Proofs.Ythhlbpahndfdhaa.Tydg
open Go.Proofs.Ythhlbpahndfdhaa.Tk (opl Tok Toks stepT_le OpSpec tcells NextOut next)

theorem opSpec : OpSpec Try.prog := fun R x h0 h1 => (opcodeOf rfl R x h0 h1).mono fun R' v _ ⟨ad, h1, h2⟩ => ⟨ad, h1, h2⟩

theorem nm_by (op : Int) (h0 : 0 ≤ op) (h1 : op ≤ 255) : ∀ x ∈ nmL op, 0 ≤ x ∧ x ≤ 255 := by
  have h := okOne h0 h1
  unfold okk at h
  simp only [Bool.and_eq_true, decide_eq_true_eq] at h
  intro x hx
  obtain ⟨y, hy, rfl⟩ := List.mem_map.1 hx
  have := List.all_eq_true.1 h.1.2 y hy
  simp at this
  omega

theorem decL_by (n : Nat) (h : n < 1000) : ∀ x ∈ decL n, 0 ≤ x ∧ x ≤ 255 := by
  intro x hx
  unfold decL at hx
  split at hx
  · simp at hx; omega
  · split at hx
    · simp at hx; omega
    · simp at hx; omega

theorem piece_by {op : Int} {d : List Int} (h0 : 0 ≤ op) (h1 : op ≤ 255) (hd : ∀ x ∈ d, x ≤ 255) : ∀ x ∈ piece op d, 0 ≤ x ∧ x ≤ 255 := by
  unfold piece
  split
  · exact decL_by 0 (by omega)
  · split
    · exact decL_by _ (by omega)
    · split
      · intro x hx; simp at hx; omega
      · split
        · exact hexL_wf d hd
        · exact nm_by op h0 h1

/-- A tokenizer that has met an error: no more. -/
theorem nextE {P : Program} (hP : P = Try.prog) (R : RO) (a : Option Addr) (n c : Nat) (off pos : Int) (opv dv : Value) (t : Nat) (v : Value) :
    CallP P 14 [.p 0 0] R [(0, ⟨48, (tcells a n c off pos opv dv (.iface t v)).map SV.v⟩)] 1 [] fun R' hp' _ _ r => ∀ _ : Unit, find hp' 0 = some ⟨48, (tcells a n c off pos opv dv (.iface t v)).map SV.v⟩ ∧ r = .v (.bool false) := by
  subst hP
  refine callP_vc (fz := []) Try.func14 rfl (by decide) rfl ok14 rfl ?_
  intro P bin cmp cnv neg com bnot beq ofN toN at_ sub_ scmp cat sget ssz ssub elem fld_ hP hA
  conv => cbv
  refine callP_in (fz := []) hP hA Try.func25 rfl (by decide) rfl ok25 (by simp [labL, lab]) ?_
  conv => cbv
  refine ⟨[0, 1, 2, 3, 4, 5, 6, 7, 8, 9, 10, 11, 12, 13, 14, 15, 16, 17, 18], [], mix hP, by kernel_rfl, ?_⟩
  conv => cbv
  have bt : bnot true = false := by rw [bnot_ hA]; rfl
  have bf : bnot false = true := by rw [bnot_ hA]; rfl
  simp only [bf]
  conv => cbv
  exact fun _ => ⟨rfl, rfl⟩

/-- A tokenizer at the end: no more. -/
theorem nextZ {P : Program} (hP : P = Try.prog) (R : RO) (a : Option Addr) (n c : Nat) (off pos : Int) (opv dv : Value) (hoff : off = n) (hn : n ≤ 100000) :
    CallP P 14 [.p 0 0] R [(0, ⟨48, (tcells a n c off pos opv dv .nilIface).map SV.v⟩)] 1 [] fun R' hp' _ _ r => ∀ _ : Unit, find hp' 0 = some ⟨48, (tcells a n c off pos opv dv .nilIface).map SV.v⟩ ∧ r = .v (.bool false) := by
  subst hP
  refine callP_vc (fz := []) Try.func14 rfl (by decide) rfl ok14 rfl ?_
  intro P bin cmp cnv neg com bnot beq ofN toN at_ sub_ scmp cat sget ssz ssub elem fld_ hP hA
  conv => cbv
  refine callP_in (fz := []) hP hA Try.func25 rfl (by decide) rfl ok25 (by simp [labL, lab]) ?_
  conv => cbv
  refine ⟨[0, 1, 2, 3, 4, 5, 6, 7, 8, 9, 10, 11, 12, 13, 14, 15, 16, 17, 18], [], mix hP, by kernel_rfl, ?_⟩
  conv => cbv
  have bt : bnot true = false := by rw [bnot_ hA]; rfl
  simp only [bt]
  conv => cbv
  have en : cnv .i32 (ofN n) = n := by rw [ofN_ hA]; exact cnv_i32 hA (by omega)
  refine br_t (by rw [en, cmp_geq hA]; simp; omega) ?_
  conv => cbv
  exact fun _ => ⟨rfl, rfl⟩

structure Lq where
  R : RO
  ad : SV
  a : Option Addr
  n : Nat
  c : Nat
  rs : List Row
  off : Int
  pos : Int
  op : Value
  d : Value
  er : Value

/-- How far the package is. -/
structure Iv (R0 : RO) (xs : List Int) (x : Lq) (l : List Tok) (p : Nat) : Prop where
  hR : R0.le x.R
  had : x.ad = .v (.pointer none) ∨ x.ad = .p 0 0
  hb : Base1 x.rs [] x.a x.n x.c 5 1 (ints .u8 (J l))
  hn : (J l).length = x.n
  hs : x.n ≠ 0 → x.a.isSome = true
  hby : ∀ y ∈ J l, 0 ≤ y ∧ y ≤ 255
  hlen : (J l).length ≤ 43 * p
  ht : Toks xs l p
  hp : p ≤ xs.length
  hoff : x.off = p

/-- More may come: no error yet. -/
structure Ma (x : Lq) (l : List Tok) (p : Nat) : Prop where
  ne : l ≠ []
  er : x.er = .nilIface
  p0 : -1 ≤ x.pos
  p1 : x.pos < p
  hov : ∀ cs, x.op ≠ .agg cs
  hdv : ∀ cs, x.d ≠ .agg cs

/-- Nothing more comes. -/
def Mb (xs : List Int) (er : Value) (p : Nat) : Prop := (p = xs.length ∧ er = .nilIface) ∨ (p < xs.length ∧ Tk.stepT (xs.drop p) = none ∧ ∃ s, er = .iface 61 (.agg #[.int .i64 27, .string s]))

theorem toks0 {xs : List Int} {l : List Tok} {p : Nat} (h : Toks xs l p) : l = [] ↔ p = 0 := by
  cases h with
  | nil => simp
  | snoc h ho hs =>
    have := stepT_le hs
    constructor
    · intro e; simp at e
    · intro e; omega




set_option maxRecDepth 100000 in
set_option maxHeartbeats 4000000 in
theorem disI {P : Program} (hP : P = Try.prog) (R : RO) (a : Option Addr) (n c : Nat) (xs : List Int) (h : RI R .u8 a n xs) (hn : n ≤ 100000) (hc : n ≤ c) :
    RetP P 6 [.slice a n c] R fun _ r => ∃ (l : List Tok) (p : Nat) (bs : ByteArray) (er : Value), r = .tuple #[.string bs, er] ∧ Toks xs l p ∧
      ((p = xs.length ∧ er = .nilIface ∧ SB bs (disL l true)) ∨ (p < xs.length ∧ Tk.stepT (xs.drop p) = none ∧ (∃ s, er = .iface 61 (.agg #[.int .i64 27, .string s])) ∧ SB bs (disL l false))) := by
  subst hP
  have hl := h.len
  refine retP_vc (fz := []) Try.func6 rfl (by decide) rfl ok6 ?_
  intro P bin cmp cnv neg com bnot beq ofN toN at_ sub_ scmp cat sget ssz ssub elem fld_ hP hA
  conv => cbv
  have hOp' : OpSpec P := by rw [hP]; exact opSpec
  have nt : bnot true = false := by rw [bnot_ hA]; rfl
  have nf : bnot false = true := by rw [bnot_ hA]; rfl
  refine callP_in (fz := []) hP hA Try.func13 rfl (by decide) rfl ok13 (by simp [labL, lab]) ?_
  conv => cbv
  refine br_f (by rw [cmp_neq hA]; rfl) ?_
  conv => cbv
  refine CallP.lend (next hP hOp' R a n c xs h hn hc 0 0 (-1) rfl (by omega) ⟨by omega, by omega⟩ (.pointer none) (.slice none 0 0) (fun cs h => by cases h) (fun cs h => by cases h)) rfl rfl ?_
  intro R2 hp' nx' rs' r hR2 hout
  rcases hout () with ⟨op, d, k', ad, a3, n3, c3, off', hx, hst, rfl, ho, hf, hcc, h3, -, hc3⟩ | ⟨off', pos', op, d, er, rfl, hoe, hf, hend⟩
  · have hop := wf_u8 (h.wf op (List.mem_of_getElem? hx))
    have hks := stepT_le hst
    have hdl := h3.len
    have hdb : ∀ x ∈ d, x ≤ 255 := fun x hx => (wf_u8 (h3.wf x hx)).2
    have hpl := piece_len (m := d.length) hop.1 hop.2 (d := d) (Nat.le_refl _)
    have hxl : (xs.drop 0).length ≤ n := by rw [List.drop_zero]; omega
    have hto : Toks xs ([] ++ [⟨op, d, 0⟩]) (0 + k') := Toks.nil.snoc hx hst
    have hJ : J ([] ++ [⟨op, d, 0⟩]) = piece op d := J_one _
    have hpb := piece_by hop.1 hop.2 hdb
    refine ⟨_, _, _, hf, rfl, rfl, ?_⟩
    conv => cbv
    refine ⟨[0, 1, 2, 3], [3], mix hP, by kernel_rfl, ?_⟩
    conv => cbv
    refine callP_in (fz := []) hP hA Try.func16 rfl (by decide) rfl ok16 (by simp [labL, lab]) ?_
    conv => cbv
    refine ⟨⟨⟨rfl, rfl, rfl, trivial⟩, .refl _⟩, ?_⟩
    conv => cbv
    refine disC hP R2 (.v (.pointer none)) (.inl rfl) none 0 0 [] [] Base1.nil rfl (by omega) op hop.1 hop.2 ad hcc a3 n3 c3 d h3 hc3 (by omega) _ _ ?_
    intro a5 n5 c5 rs5 r5 hb5 hn5 hs5
    have hI : Iv R xs ⟨R2, .p 0 0, a5, n5, c5, rs5, off', 0, .pointer (some ad), .slice a3 n3 c3, .nilIface⟩ ([] ++ [⟨op, d, 0⟩]) (0 + k') :=
      ⟨hR2, .inr rfl, by rw [hJ]; exact hb5, by rw [hJ]; show _ = n5; omega, hs5, by rw [hJ]; exact hpb, by rw [hJ]; omega, hto, by omega, ho⟩
    have hMm : Ma ⟨R2, .p 0 0, a5, n5, c5, rs5, off', 0, .pointer (some ad), .slice a3 n3 c3, .nilIface⟩ ([] ++ [⟨op, d, 0⟩]) (0 + k') :=
      ⟨by simp, rfl, (by decide : (-1 : Int) ≤ 0), by show (0 : Int) < ((0 + k' : Nat) : Int); omega, fun cs h => (by cases h), fun cs h => (by cases h)⟩
    conv => cbv
    refine ⟨Lq, fun x => ⟨[(4, .p 0 0), (5, .p 2 0)], x.R, [(2, ⟨48, [.v (.slice a n c), .v (.int .u16 0), .v (.int .i32 x.off), .v (.int .i32 x.pos), .v x.op, .v x.d, .v x.er]⟩), (1, ⟨48, [.v (.slice a n c), .v (.int .u16 0), .v (.int .i32 0), .v (.int .i32 (-1)), .v (.pointer none), .v (.slice none 0 0), .v .nilIface]⟩), (0, ⟨44, [x.ad, .v (.slice x.a x.n x.c)]⟩)], 3, x.rs⟩,
      fun k x => ∃ (l : List Tok) (p : Nat), Iv R xs x l p ∧ k = xs.length - p ∧ (Ma x l p ∨ Mb xs x.er p),
      ⟨xs.length - ((0 + k')), ⟨R2, .p 0 0, a5, n5, c5, rs5, off', 0, .pointer (some ad), .slice a3 n3 c3, .nilIface⟩, ⟨⟨rfl, rfl, trivial⟩, rfl, ⟨rfl, rfl, rfl, trivial⟩, rfl, .refl _⟩, ([] ++ [⟨op, d, 0⟩]), (0 + k'), hI, rfl, (.inl hMm)⟩, ?_⟩
    rintro k ⟨R1, ad1, a1, n1, c1, rs1, off, pos, opv, dv, er9⟩ ⟨l, p, hI9, hk, hM9⟩
    obtain ⟨hR, had, hb, hJn, hs, hby, hlen, ht, hp, hoff⟩ := hI9
    simp only at hR had hb hJn hs hoff
    have hw : ∀ x ∈ J l, (Lit.int .u8 x).wf = true := fun x hx => wfb (hby x hx)
    have herr : ∀ x ∈ errL, (Lit.int .u8 x).wf = true := by decide
    have herl : errL.length = 7 := rfl
    conv => cbv
    rcases hM9 with hM9 | hM9
    · obtain ⟨hne, her, hp0, hp1, hov, hdv⟩ := hM9
      simp only at her hp0 hp1 hov hdv
      subst her
      refine CallP.lend (next hP hOp' R1 a n c xs (h.le hR) hn hc p off pos hoff hp ⟨hp0, hp1⟩ opv dv hov hdv) rfl rfl ?_
      intro R3 hp3 nx3 rs3 r3 hR3 hout3
      rcases hout3 () with ⟨op, d, k', pa, a3, n3, c3, off', hx, hst, rfl, ho, hf, hcc, h3, -, hc3⟩ | ⟨off', pos', op, d, er, rfl, hoe, hf, hend⟩
      · have hop := wf_u8 (h.wf op (List.mem_of_getElem? hx))
        have hks := stepT_le hst
        have hdl := h3.len
        have hdb : ∀ x ∈ d, x ≤ 255 := fun x hx => (wf_u8 (h3.wf x hx)).2
        have hpl := piece_len (m := d.length) hop.1 hop.2 (d := d) (Nat.le_refl _)
        have hxl : (xs.drop p).length = n - p := by rw [List.length_drop, hl]
        have hto := ht.snoc hx hst
        have hJ : J (l ++ [⟨op, d, p⟩]) = J l ++ [32] ++ piece op d := by rw [J_snoc _ _ hne, List.append_assoc]; rfl
        have hpb := piece_by hop.1 hop.2 hdb
        obtain ⟨pos1, hpos1⟩ : ∃ q, q = pos + 1 := ⟨_, rfl⟩
        rw [← hpos1] at hf
        refine ⟨_, _, _, hf, rfl, rfl, ?_⟩
        conv => cbv
        refine wbC hP R3 ad1 had a1 n1 c1 (J l) rs1 hb hJn (by omega) 32 _ _ (by simp [labL, lab]) (by simp [labL, lab]) ?_
        intro a4 n4 c4 rs4 r4 hb4 hn4 hs4
        conv => cbv
        refine ⟨[0, 1, 2, 3], [3], mix hP, by kernel_rfl, ?_⟩
        conv => cbv
        refine callP_in (fz := []) hP hA Try.func16 rfl (by decide) rfl ok16 (by simp [labL, lab]) ?_
        conv => cbv
        refine ⟨⟨⟨rfl, rfl, rfl, trivial⟩, .refl _⟩, ?_⟩
        conv => cbv
        refine disC hP R3 (.p 0 0) (.inr rfl) a4 n4 c4 (J l ++ [32]) rs4 hb4 (by rw [hn4, List.length_append, hJn]; rfl) (by omega) op hop.1 hop.2 pa hcc a3 n3 c3 d h3 hc3 (by omega) _ _ ?_
        intro a5 n5 c5 rs5 r5 hb5 hn5 hs5
        have hJl : (J (l ++ [⟨op, d, p⟩])).length = n5 := by rw [hJ, hn5, hn4, List.length_append, List.length_append, hJn]; rfl
        have hI5 : Iv R xs ⟨R3, .p 0 0, a5, n5, c5, rs5, off', pos1, .pointer (some pa), .slice a3 n3 c3, .nilIface⟩ (l ++ [⟨op, d, p⟩]) (p + k') :=
          ⟨RO.le_trans hR hR3, .inr rfl, by rw [hJ]; exact hb5, hJl, hs5, by
            rw [hJ]
            intro y hy
            rcases List.mem_append.1 hy with hy | hy
            · rcases List.mem_append.1 hy with hy | hy
              · exact hby y hy
              · rw [List.mem_singleton.1 hy]; decide
            · exact hpb y hy, by omega, hto, by omega, ho⟩
        have hM5 : Ma ⟨R3, .p 0 0, a5, n5, c5, rs5, off', pos1, .pointer (some pa), .slice a3 n3 c3, .nilIface⟩ (l ++ [⟨op, d, p⟩]) (p + k') :=
          ⟨by simp, rfl, by show -1 ≤ pos1; omega, by show pos1 < ((p + k' : Nat) : Int); omega, fun cs h => (by cases h), fun cs h => (by cases h)⟩
        conv => cbv
        exact ⟨xs.length - (p + k'), ⟨R3, .p 0 0, a5, n5, c5, rs5, off', pos1, .pointer (some pa), .slice a3 n3 c3, .nilIface⟩, by omega, ⟨⟨rfl, rfl, trivial⟩, rfl, ⟨rfl, rfl, rfl, trivial⟩, rfl, .refl _⟩, _, _, hI5, rfl, .inl hM5⟩
      · refine ⟨_, _, _, hf, rfl, rfl, ?_⟩
        rcases hend with ⟨hpe, rfl⟩ | ⟨hpe, hst9, es, rfl⟩
        · conv => cbv
          refine callP_in (fz := []) hP hA Try.func18 rfl (by decide) rfl ok18 (by simp [labL, lab]) ?_
          conv => cbv
          simp (maxSteps := 10000000) only [nt]
          conv => cbv
          refine strC hP R3 ad1 had a1 n1 c1 (J l) rs1 hb hJn (by omega) hs hw _ _ (by simp [labL, lab]) (by simp [labL, lab]) ?_
          intro rs6 bs hbs
          conv => cbv
          refine callP_in (fz := []) hP hA Try.func18 rfl (by decide) rfl ok18 (by simp [labL, lab]) ?_
          conv => cbv
          intro ρ R'' _ _ _
          exact ⟨l, p, bs, _, rfl, ht, .inl ⟨hpe, rfl, hbs⟩⟩
        · conv => cbv
          refine callP_in (fz := []) hP hA Try.func18 rfl (by decide) rfl ok18 (by simp [labL, lab]) ?_
          conv => cbv
          simp (maxSteps := 10000000) only [nf]
          conv => cbv
          refine callP_in (fz := []) hP hA Try.func19 rfl (by decide) rfl ok19 (by simp [labL, lab]) ?_
          conv => cbv
          by_cases hl0 : l = []
          · refine br_f (by rw [hoe, (toks0 ht).1 hl0, cmp_neq hA]; rfl) ?_
            conv => cbv
            refine wsC hP R3 ad1 had a1 n1 c1 (J l) rs1 hb hJn (by omega) ⟨#[91, 101, 114, 114, 111, 114, 93]⟩ errL rfl (by decide) _ _ ?_
            intro a7 n7 c7 rs7 r7 hb7 hn7 hs7
            conv => cbv
            refine strC hP R3 (.p 0 0) (.inr rfl) a7 n7 c7 (J l ++ errL) rs7 hb7 (by rw [hn7, List.length_append, hJn]) (by omega) hs7 (fun x hx => by
              rcases List.mem_append.1 hx with hx | hx
              · exact hw x hx
              · exact herr x hx) _ _ (by simp [labL, lab]) (by simp [labL, lab]) ?_
            intro rs8 bs hbs
            conv => cbv
            refine callP_in (fz := []) hP hA Try.func18 rfl (by decide) rfl ok18 (by simp [labL, lab]) ?_
            conv => cbv
            intro ρ R'' _ _ _
            refine ⟨l, p, bs, _, rfl, ht, .inr ⟨hpe, hst9, ⟨_, rfl⟩, ?_⟩⟩
            rw [hl0] at hbs ⊢
            exact hbs
          refine br_t (by rw [hoe, cmp_neq hA]; exact bne_iff_ne.2 (fun h => hl0 ((toks0 ht).2 (by omega)))) ?_
          conv => cbv
          refine wbC hP R3 ad1 had a1 n1 c1 (J l) rs1 hb hJn (by omega) 32 _ _ (by simp [labL, lab]) (by simp [labL, lab]) ?_
          intro a6 n6 c6 rs6 r6 hb6 hn6 hs6
          conv => cbv
          refine wsC hP R3 (.p 0 0) (.inr rfl) a6 n6 c6 (J l ++ [32]) rs6 hb6 (by rw [hn6, List.length_append, hJn]; rfl) (by omega) ⟨#[91, 101, 114, 114, 111, 114, 93]⟩ errL rfl (by decide) _ _ ?_
          intro a7 n7 c7 rs7 r7 hb7 hn7 hs7
          conv => cbv
          refine strC hP R3 (.p 0 0) (.inr rfl) a7 n7 c7 (J l ++ [32] ++ errL) rs7 hb7 (by rw [hn7, hn6, List.length_append, List.length_append, hJn]; rfl) (by omega) hs7 (fun x hx => by
            rcases List.mem_append.1 hx with hx | hx
            · rcases List.mem_append.1 hx with hx | hx
              · exact hw x hx
              · rw [List.mem_singleton.1 hx]; decide
            · exact herr x hx) _ _ (by simp [labL, lab]) (by simp [labL, lab]) ?_
          intro rs8 bs hbs
          conv => cbv
          refine callP_in (fz := []) hP hA Try.func18 rfl (by decide) rfl ok18 (by simp [labL, lab]) ?_
          conv => cbv
          intro ρ R'' _ _ _
          refine ⟨l, p, bs, _, rfl, ht, .inr ⟨hpe, hst9, ⟨_, rfl⟩, ?_⟩⟩
          rw [List.append_assoc] at hbs
          rw [disL, if_neg (by decide), if_neg hl0]
          exact hbs
    rcases hM9 with ⟨hpe9, rfl⟩ | ⟨hpe9, hst8, es8, rfl⟩
    · refine CallP.lend (nextZ hP R1 a n c off pos opv dv (by omega) hn) rfl rfl ?_
      intro R3 hp3 nx3 rs3 r3 hR3 hout3
      obtain ⟨hf, rfl⟩ := hout3 ()
      refine ⟨_, _, _, hf, rfl, rfl, ?_⟩
      conv => cbv
      refine callP_in (fz := []) hP hA Try.func18 rfl (by decide) rfl ok18 (by simp [labL, lab]) ?_
      conv => cbv
      simp (maxSteps := 10000000) only [nt]
      conv => cbv
      refine strC hP R3 ad1 had a1 n1 c1 (J l) rs1 hb hJn (by omega) hs hw _ _ (by simp [labL, lab]) (by simp [labL, lab]) ?_
      intro rs6 bs hbs
      conv => cbv
      refine callP_in (fz := []) hP hA Try.func18 rfl (by decide) rfl ok18 (by simp [labL, lab]) ?_
      conv => cbv
      intro ρ R'' _ _ _
      exact ⟨l, p, bs, _, rfl, ht, .inl ⟨hpe9, rfl, hbs⟩⟩
    · refine CallP.lend (nextE hP R1 a n c off pos opv dv _ _) rfl rfl ?_
      intro R3 hp3 nx3 rs3 r3 hR3 hout3
      obtain ⟨hf, rfl⟩ := hout3 ()
      refine ⟨_, _, _, hf, rfl, rfl, ?_⟩
      conv => cbv
      refine callP_in (fz := []) hP hA Try.func18 rfl (by decide) rfl ok18 (by simp [labL, lab]) ?_
      conv => cbv
      simp (maxSteps := 10000000) only [nf]
      conv => cbv
      refine callP_in (fz := []) hP hA Try.func19 rfl (by decide) rfl ok19 (by simp [labL, lab]) ?_
      conv => cbv
      by_cases hl0 : l = []
      · refine br_f (by rw [hoff, (toks0 ht).1 hl0, cmp_neq hA]; rfl) ?_
        conv => cbv
        refine wsC hP R3 ad1 had a1 n1 c1 (J l) rs1 hb hJn (by omega) ⟨#[91, 101, 114, 114, 111, 114, 93]⟩ errL rfl (by decide) _ _ ?_
        intro a7 n7 c7 rs7 r7 hb7 hn7 hs7
        conv => cbv
        refine strC hP R3 (.p 0 0) (.inr rfl) a7 n7 c7 (J l ++ errL) rs7 hb7 (by rw [hn7, List.length_append, hJn]) (by omega) hs7 (fun x hx => by
          rcases List.mem_append.1 hx with hx | hx
          · exact hw x hx
          · exact herr x hx) _ _ (by simp [labL, lab]) (by simp [labL, lab]) ?_
        intro rs8 bs hbs
        conv => cbv
        refine callP_in (fz := []) hP hA Try.func18 rfl (by decide) rfl ok18 (by simp [labL, lab]) ?_
        conv => cbv
        intro ρ R'' _ _ _
        refine ⟨l, p, bs, _, rfl, ht, .inr ⟨hpe9, hst8, ⟨_, rfl⟩, ?_⟩⟩
        rw [hl0] at hbs ⊢
        exact hbs
      refine br_t (by rw [hoff, cmp_neq hA]; exact bne_iff_ne.2 (fun h => hl0 ((toks0 ht).2 (by omega)))) ?_
      conv => cbv
      refine wbC hP R3 ad1 had a1 n1 c1 (J l) rs1 hb hJn (by omega) 32 _ _ (by simp [labL, lab]) (by simp [labL, lab]) ?_
      intro a6 n6 c6 rs6 r6 hb6 hn6 hs6
      conv => cbv
      refine wsC hP R3 (.p 0 0) (.inr rfl) a6 n6 c6 (J l ++ [32]) rs6 hb6 (by rw [hn6, List.length_append, hJn]; rfl) (by omega) ⟨#[91, 101, 114, 114, 111, 114, 93]⟩ errL rfl (by decide) _ _ ?_
      intro a7 n7 c7 rs7 r7 hb7 hn7 hs7
      conv => cbv
      refine strC hP R3 (.p 0 0) (.inr rfl) a7 n7 c7 (J l ++ [32] ++ errL) rs7 hb7 (by rw [hn7, hn6, List.length_append, List.length_append, hJn]; rfl) (by omega) hs7 (fun x hx => by
        rcases List.mem_append.1 hx with hx | hx
        · rcases List.mem_append.1 hx with hx | hx
          · exact hw x hx
          · rw [List.mem_singleton.1 hx]; decide
        · exact herr x hx) _ _ (by simp [labL, lab]) (by simp [labL, lab]) ?_
      intro rs8 bs hbs
      conv => cbv
      refine callP_in (fz := []) hP hA Try.func18 rfl (by decide) rfl ok18 (by simp [labL, lab]) ?_
      conv => cbv
      intro ρ R'' _ _ _
      refine ⟨l, p, bs, _, rfl, ht, .inr ⟨hpe9, hst8, ⟨_, rfl⟩, ?_⟩⟩
      rw [List.append_assoc] at hbs
      rw [disL, if_neg (by decide), if_neg hl0]
      exact hbs
  · have hI : Iv R xs ⟨R2, .v (.pointer none), none, 0, 0, [], off', pos', op, d, er⟩ [] 0 := ⟨hR2, .inl rfl, Base1.nil, rfl, fun h => absurd rfl h, fun y hy => (by cases hy), Nat.le_refl _, .nil, Nat.zero_le _, hoe⟩
    have hMm : Mb xs er 0 := hend
    refine ⟨_, _, _, hf, rfl, rfl, ?_⟩
    conv => cbv
    refine ⟨Lq, fun x => ⟨[(4, .p 0 0), (5, .p 2 0)], x.R, [(2, ⟨48, [.v (.slice a n c), .v (.int .u16 0), .v (.int .i32 x.off), .v (.int .i32 x.pos), .v x.op, .v x.d, .v x.er]⟩), (1, ⟨48, [.v (.slice a n c), .v (.int .u16 0), .v (.int .i32 0), .v (.int .i32 (-1)), .v (.pointer none), .v (.slice none 0 0), .v .nilIface]⟩), (0, ⟨44, [x.ad, .v (.slice x.a x.n x.c)]⟩)], 3, x.rs⟩,
      fun k x => ∃ (l : List Tok) (p : Nat), Iv R xs x l p ∧ k = xs.length - p ∧ (Ma x l p ∨ Mb xs x.er p),
      ⟨xs.length - (0), ⟨R2, .v (.pointer none), none, 0, 0, [], off', pos', op, d, er⟩, ⟨⟨rfl, rfl, trivial⟩, rfl, ⟨rfl, rfl, rfl, trivial⟩, rfl, .refl _⟩, [], 0, hI, rfl, (.inr hMm)⟩, ?_⟩
    rintro k ⟨R1, ad1, a1, n1, c1, rs1, off, pos, opv, dv, er9⟩ ⟨l, p, hI9, hk, hM9⟩
    obtain ⟨hR, had, hb, hJn, hs, hby, hlen, ht, hp, hoff⟩ := hI9
    simp only at hR had hb hJn hs hoff
    have hw : ∀ x ∈ J l, (Lit.int .u8 x).wf = true := fun x hx => wfb (hby x hx)
    have herr : ∀ x ∈ errL, (Lit.int .u8 x).wf = true := by decide
    have herl : errL.length = 7 := rfl
    conv => cbv
    rcases hM9 with hM9 | hM9
    · obtain ⟨hne, her, hp0, hp1, hov, hdv⟩ := hM9
      simp only at her hp0 hp1 hov hdv
      subst her
      refine CallP.lend (next hP hOp' R1 a n c xs (h.le hR) hn hc p off pos hoff hp ⟨hp0, hp1⟩ opv dv hov hdv) rfl rfl ?_
      intro R3 hp3 nx3 rs3 r3 hR3 hout3
      rcases hout3 () with ⟨op, d, k', pa, a3, n3, c3, off', hx, hst, rfl, ho, hf, hcc, h3, -, hc3⟩ | ⟨off', pos', op, d, er, rfl, hoe, hf, hend⟩
      · have hop := wf_u8 (h.wf op (List.mem_of_getElem? hx))
        have hks := stepT_le hst
        have hdl := h3.len
        have hdb : ∀ x ∈ d, x ≤ 255 := fun x hx => (wf_u8 (h3.wf x hx)).2
        have hpl := piece_len (m := d.length) hop.1 hop.2 (d := d) (Nat.le_refl _)
        have hxl : (xs.drop p).length = n - p := by rw [List.length_drop, hl]
        have hto := ht.snoc hx hst
        have hJ : J (l ++ [⟨op, d, p⟩]) = J l ++ [32] ++ piece op d := by rw [J_snoc _ _ hne, List.append_assoc]; rfl
        have hpb := piece_by hop.1 hop.2 hdb
        obtain ⟨pos1, hpos1⟩ : ∃ q, q = pos + 1 := ⟨_, rfl⟩
        rw [← hpos1] at hf
        refine ⟨_, _, _, hf, rfl, rfl, ?_⟩
        conv => cbv
        refine wbC hP R3 ad1 had a1 n1 c1 (J l) rs1 hb hJn (by omega) 32 _ _ (by simp [labL, lab]) (by simp [labL, lab]) ?_
        intro a4 n4 c4 rs4 r4 hb4 hn4 hs4
        conv => cbv
        refine ⟨[0, 1, 2, 3], [3], mix hP, by kernel_rfl, ?_⟩
        conv => cbv
        refine callP_in (fz := []) hP hA Try.func16 rfl (by decide) rfl ok16 (by simp [labL, lab]) ?_
        conv => cbv
        refine ⟨⟨⟨rfl, rfl, rfl, trivial⟩, .refl _⟩, ?_⟩
        conv => cbv
        refine disC hP R3 (.p 0 0) (.inr rfl) a4 n4 c4 (J l ++ [32]) rs4 hb4 (by rw [hn4, List.length_append, hJn]; rfl) (by omega) op hop.1 hop.2 pa hcc a3 n3 c3 d h3 hc3 (by omega) _ _ ?_
        intro a5 n5 c5 rs5 r5 hb5 hn5 hs5
        have hJl : (J (l ++ [⟨op, d, p⟩])).length = n5 := by rw [hJ, hn5, hn4, List.length_append, List.length_append, hJn]; rfl
        have hI5 : Iv R xs ⟨R3, .p 0 0, a5, n5, c5, rs5, off', pos1, .pointer (some pa), .slice a3 n3 c3, .nilIface⟩ (l ++ [⟨op, d, p⟩]) (p + k') :=
          ⟨RO.le_trans hR hR3, .inr rfl, by rw [hJ]; exact hb5, hJl, hs5, by
            rw [hJ]
            intro y hy
            rcases List.mem_append.1 hy with hy | hy
            · rcases List.mem_append.1 hy with hy | hy
              · exact hby y hy
              · rw [List.mem_singleton.1 hy]; decide
            · exact hpb y hy, by omega, hto, by omega, ho⟩
        have hM5 : Ma ⟨R3, .p 0 0, a5, n5, c5, rs5, off', pos1, .pointer (some pa), .slice a3 n3 c3, .nilIface⟩ (l ++ [⟨op, d, p⟩]) (p + k') :=
          ⟨by simp, rfl, by show -1 ≤ pos1; omega, by show pos1 < ((p + k' : Nat) : Int); omega, fun cs h => (by cases h), fun cs h => (by cases h)⟩
        conv => cbv
        exact ⟨xs.length - (p + k'), ⟨R3, .p 0 0, a5, n5, c5, rs5, off', pos1, .pointer (some pa), .slice a3 n3 c3, .nilIface⟩, by omega, ⟨⟨rfl, rfl, trivial⟩, rfl, ⟨rfl, rfl, rfl, trivial⟩, rfl, .refl _⟩, _, _, hI5, rfl, .inl hM5⟩
      · refine ⟨_, _, _, hf, rfl, rfl, ?_⟩
        rcases hend with ⟨hpe, rfl⟩ | ⟨hpe, hst9, es, rfl⟩
        · conv => cbv
          refine callP_in (fz := []) hP hA Try.func18 rfl (by decide) rfl ok18 (by simp [labL, lab]) ?_
          conv => cbv
          simp (maxSteps := 10000000) only [nt]
          conv => cbv
          refine strC hP R3 ad1 had a1 n1 c1 (J l) rs1 hb hJn (by omega) hs hw _ _ (by simp [labL, lab]) (by simp [labL, lab]) ?_
          intro rs6 bs hbs
          conv => cbv
          refine callP_in (fz := []) hP hA Try.func18 rfl (by decide) rfl ok18 (by simp [labL, lab]) ?_
          conv => cbv
          intro ρ R'' _ _ _
          exact ⟨l, p, bs, _, rfl, ht, .inl ⟨hpe, rfl, hbs⟩⟩
        · conv => cbv
          refine callP_in (fz := []) hP hA Try.func18 rfl (by decide) rfl ok18 (by simp [labL, lab]) ?_
          conv => cbv
          simp (maxSteps := 10000000) only [nf]
          conv => cbv
          refine callP_in (fz := []) hP hA Try.func19 rfl (by decide) rfl ok19 (by simp [labL, lab]) ?_
          conv => cbv
          by_cases hl0 : l = []
          · refine br_f (by rw [hoe, (toks0 ht).1 hl0, cmp_neq hA]; rfl) ?_
            conv => cbv
            refine wsC hP R3 ad1 had a1 n1 c1 (J l) rs1 hb hJn (by omega) ⟨#[91, 101, 114, 114, 111, 114, 93]⟩ errL rfl (by decide) _ _ ?_
            intro a7 n7 c7 rs7 r7 hb7 hn7 hs7
            conv => cbv
            refine strC hP R3 (.p 0 0) (.inr rfl) a7 n7 c7 (J l ++ errL) rs7 hb7 (by rw [hn7, List.length_append, hJn]) (by omega) hs7 (fun x hx => by
              rcases List.mem_append.1 hx with hx | hx
              · exact hw x hx
              · exact herr x hx) _ _ (by simp [labL, lab]) (by simp [labL, lab]) ?_
            intro rs8 bs hbs
            conv => cbv
            refine callP_in (fz := []) hP hA Try.func18 rfl (by decide) rfl ok18 (by simp [labL, lab]) ?_
            conv => cbv
            intro ρ R'' _ _ _
            refine ⟨l, p, bs, _, rfl, ht, .inr ⟨hpe, hst9, ⟨_, rfl⟩, ?_⟩⟩
            rw [hl0] at hbs ⊢
            exact hbs
          refine br_t (by rw [hoe, cmp_neq hA]; exact bne_iff_ne.2 (fun h => hl0 ((toks0 ht).2 (by omega)))) ?_
          conv => cbv
          refine wbC hP R3 ad1 had a1 n1 c1 (J l) rs1 hb hJn (by omega) 32 _ _ (by simp [labL, lab]) (by simp [labL, lab]) ?_
          intro a6 n6 c6 rs6 r6 hb6 hn6 hs6
          conv => cbv
          refine wsC hP R3 (.p 0 0) (.inr rfl) a6 n6 c6 (J l ++ [32]) rs6 hb6 (by rw [hn6, List.length_append, hJn]; rfl) (by omega) ⟨#[91, 101, 114, 114, 111, 114, 93]⟩ errL rfl (by decide) _ _ ?_
          intro a7 n7 c7 rs7 r7 hb7 hn7 hs7
          conv => cbv
          refine strC hP R3 (.p 0 0) (.inr rfl) a7 n7 c7 (J l ++ [32] ++ errL) rs7 hb7 (by rw [hn7, hn6, List.length_append, List.length_append, hJn]; rfl) (by omega) hs7 (fun x hx => by
            rcases List.mem_append.1 hx with hx | hx
            · rcases List.mem_append.1 hx with hx | hx
              · exact hw x hx
              · rw [List.mem_singleton.1 hx]; decide
            · exact herr x hx) _ _ (by simp [labL, lab]) (by simp [labL, lab]) ?_
          intro rs8 bs hbs
          conv => cbv
          refine callP_in (fz := []) hP hA Try.func18 rfl (by decide) rfl ok18 (by simp [labL, lab]) ?_
          conv => cbv
          intro ρ R'' _ _ _
          refine ⟨l, p, bs, _, rfl, ht, .inr ⟨hpe, hst9, ⟨_, rfl⟩, ?_⟩⟩
          rw [List.append_assoc] at hbs
          rw [disL, if_neg (by decide), if_neg hl0]
          exact hbs
    rcases hM9 with ⟨hpe9, rfl⟩ | ⟨hpe9, hst8, es8, rfl⟩
    · refine CallP.lend (nextZ hP R1 a n c off pos opv dv (by omega) hn) rfl rfl ?_
      intro R3 hp3 nx3 rs3 r3 hR3 hout3
      obtain ⟨hf, rfl⟩ := hout3 ()
      refine ⟨_, _, _, hf, rfl, rfl, ?_⟩
      conv => cbv
      refine callP_in (fz := []) hP hA Try.func18 rfl (by decide) rfl ok18 (by simp [labL, lab]) ?_
      conv => cbv
      simp (maxSteps := 10000000) only [nt]
      conv => cbv
      refine strC hP R3 ad1 had a1 n1 c1 (J l) rs1 hb hJn (by omega) hs hw _ _ (by simp [labL, lab]) (by simp [labL, lab]) ?_
      intro rs6 bs hbs
      conv => cbv
      refine callP_in (fz := []) hP hA Try.func18 rfl (by decide) rfl ok18 (by simp [labL, lab]) ?_
      conv => cbv
      intro ρ R'' _ _ _
      exact ⟨l, p, bs, _, rfl, ht, .inl ⟨hpe9, rfl, hbs⟩⟩
    · refine CallP.lend (nextE hP R1 a n c off pos opv dv _ _) rfl rfl ?_
      intro R3 hp3 nx3 rs3 r3 hR3 hout3
      obtain ⟨hf, rfl⟩ := hout3 ()
      refine ⟨_, _, _, hf, rfl, rfl, ?_⟩
      conv => cbv
      refine callP_in (fz := []) hP hA Try.func18 rfl (by decide) rfl ok18 (by simp [labL, lab]) ?_
      conv => cbv
      simp (maxSteps := 10000000) only [nf]
      conv => cbv
      refine callP_in (fz := []) hP hA Try.func19 rfl (by decide) rfl ok19 (by simp [labL, lab]) ?_
      conv => cbv
      by_cases hl0 : l = []
      · refine br_f (by rw [hoff, (toks0 ht).1 hl0, cmp_neq hA]; rfl) ?_
        conv => cbv
        refine wsC hP R3 ad1 had a1 n1 c1 (J l) rs1 hb hJn (by omega) ⟨#[91, 101, 114, 114, 111, 114, 93]⟩ errL rfl (by decide) _ _ ?_
        intro a7 n7 c7 rs7 r7 hb7 hn7 hs7
        conv => cbv
        refine strC hP R3 (.p 0 0) (.inr rfl) a7 n7 c7 (J l ++ errL) rs7 hb7 (by rw [hn7, List.length_append, hJn]) (by omega) hs7 (fun x hx => by
          rcases List.mem_append.1 hx with hx | hx
          · exact hw x hx
          · exact herr x hx) _ _ (by simp [labL, lab]) (by simp [labL, lab]) ?_
        intro rs8 bs hbs
        conv => cbv
        refine callP_in (fz := []) hP hA Try.func18 rfl (by decide) rfl ok18 (by simp [labL, lab]) ?_
        conv => cbv
        intro ρ R'' _ _ _
        refine ⟨l, p, bs, _, rfl, ht, .inr ⟨hpe9, hst8, ⟨_, rfl⟩, ?_⟩⟩
        rw [hl0] at hbs ⊢
        exact hbs
      refine br_t (by rw [hoff, cmp_neq hA]; exact bne_iff_ne.2 (fun h => hl0 ((toks0 ht).2 (by omega)))) ?_
      conv => cbv
      refine wbC hP R3 ad1 had a1 n1 c1 (J l) rs1 hb hJn (by omega) 32 _ _ (by simp [labL, lab]) (by simp [labL, lab]) ?_
      intro a6 n6 c6 rs6 r6 hb6 hn6 hs6
      conv => cbv
      refine wsC hP R3 (.p 0 0) (.inr rfl) a6 n6 c6 (J l ++ [32]) rs6 hb6 (by rw [hn6, List.length_append, hJn]; rfl) (by omega) ⟨#[91, 101, 114, 114, 111, 114, 93]⟩ errL rfl (by decide) _ _ ?_
      intro a7 n7 c7 rs7 r7 hb7 hn7 hs7
      conv => cbv
      refine strC hP R3 (.p 0 0) (.inr rfl) a7 n7 c7 (J l ++ [32] ++ errL) rs7 hb7 (by rw [hn7, hn6, List.length_append, List.length_append, hJn]; rfl) (by omega) hs7 (fun x hx => by
        rcases List.mem_append.1 hx with hx | hx
        · rcases List.mem_append.1 hx with hx | hx
          · exact hw x hx
          · rw [List.mem_singleton.1 hx]; decide
        · exact herr x hx) _ _ (by simp [labL, lab]) (by simp [labL, lab]) ?_
      intro rs8 bs hbs
      conv => cbv
      refine callP_in (fz := []) hP hA Try.func18 rfl (by decide) rfl ok18 (by simp [labL, lab]) ?_
      conv => cbv
      intro ρ R'' _ _ _
      refine ⟨l, p, bs, _, rfl, ht, .inr ⟨hpe9, hst8, ⟨_, rfl⟩, ?_⟩⟩
      rw [List.append_assoc] at hbs
      rw [disL, if_neg (by decide), if_neg hl0]
      exact hbs
end Go.Proofs.Ythhlbpahndfdhaa.Ds
