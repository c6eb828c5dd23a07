/- Is a script unspendable: both, and the law. -/
import Derived.Test.YtinbaelincgemaaTke
set_option linter.unusedSimpArgs false
set_option linter.unusedVariables false
namespace Go.Proofs.Ytinbaelincgemaa.Tk
open Go Go.Se Go.Proofs Go.Proofs.Ytinbaelincgemaa.Tytok

/-- A script is cut to its end. -/
def Wh (xs : List Int) : Prop := ∃ l, Toks xs l xs.length

theorem not_wh {xs : List Int} {l : List Tok} {p : Nat} (h : Toks xs l p) (hp : p < xs.length) (hs : stepT (xs.drop p) = none) : ¬ Wh xs := by
  rintro ⟨l', h'⟩
  have := (h.one (.inr hs) h' (stuck_end rfl)).2
  omega

theorem done_wh {xs : List Int} {l : List Tok} {p : Nat} {bad : Int} (h : Toks xs l p) (hd : Done xs p bad) : bad < 0 ↔ Wh xs := by
  rcases hd with ⟨rfl, rfl⟩ | ⟨rfl, hp, hs⟩
  · exact ⟨fun _ => ⟨l, h⟩, fun _ => by omega⟩
  · exact ⟨fun h => by omega, fun hw => absurd hw (not_wh h hp hs)⟩


set_option maxRecDepth 100000 in
theorem whole {P : Program} (hP : P = Try.prog) (R : RO) (a : Option Addr) (n c : Nat) (xs : List Int) (h : RI R .u8 a n xs) (hn : n ≤ 100000) (hc : n ≤ c) :
    RetP P 15 [.slice a n c] R fun _ v => ∃ r, v = .bool r ∧ (r = true ↔ Wh xs) := by
  subst hP
  refine retP_vc (fz := []) Try.func15 rfl (by decide) rfl ok15 ?_
  intro P bin cmp cnv neg com bnot beq ofN toN at_ sub_ scmp cat sget ssz ssub elem fld_ hP hA
  conv => cbv
  refine (tokens hP R a n c xs h hn hc).callP rfl ?_
  rintro R1 _ hR1 ⟨a1, n1, c1, bad, l, p, rfl, ht, -, hd⟩
  conv => cbv
  intro ρ R'' _ _ _
  refine ⟨_, rfl, ?_⟩
  rw [← done_wh ht hd, cmp_lss hA]
  simp

structure Lp where
  R : RO
  off : Int
  pos : Int
  op : Value
  d : Value

set_option maxRecDepth 100000 in
set_option maxHeartbeats 1000000 in
theorem parses {P : Program} (hP : P = Try.prog) (hOp : OpSpec Try.prog) (R : RO) (a : Option Addr) (n c : Nat) (xs : List Int) (h : RI R .u8 a n xs) (hn : n ≤ 100000) (hc : n ≤ c) :
    RetP P 55 [.int .u16 0, .slice a n c] R fun _ v => (Wh xs ∧ v = .nilIface) ∨ (¬ Wh xs ∧ ∃ s, v = .iface 119 (.agg #[.int .i64 27, .string s])) := by
  subst hP
  have hl := h.len
  refine retP_vc (fz := []) Try.func55 rfl (by decide) rfl ok55 ?_
  intro P bin cmp cnv neg com bnot beq ofN toN at_ sub_ scmp cat sget ssz ssub elem fld_ hP hA
  conv => cbv
  have hOp' : OpSpec P := by rw [hP]; exact hOp
  refine callP_in (fz := []) hP hA Try.func35 rfl (by decide) rfl ok35 (by simp [labL, lab]) ?_
  conv => cbv
  refine br_f (by rw [cmp_neq hA]; rfl) ?_
  conv => cbv
  refine ⟨Lp, fun x => ⟨[(5, .p 1 0)], x.R, [(1, ⟨79, [.v (.slice a n c), .v (.int .u16 0), .v (.int .i32 x.off), .v (.int .i32 x.pos), .v x.op, .v x.d, .v .nilIface]⟩)], 2, []⟩,
    fun k x => ∃ (p : Nat) (l : List Tok), x.off = p ∧ p ≤ xs.length ∧ k = xs.length - p ∧ Toks xs l p ∧ R.le x.R ∧ -1 ≤ x.pos ∧ x.pos < p ∧ (∀ cs, x.op ≠ .agg cs) ∧ (∀ cs, x.d ≠ .agg cs),
    ⟨xs.length, ⟨R, 0, -1, .pointer none, .slice none 0 0⟩, ⟨⟨rfl, trivial⟩, rfl, ⟨rfl, trivial⟩, rfl, .refl _⟩, 0, [], rfl, by omega, rfl, .nil, RO.le_refl _, Int.le_refl (-1), (by decide : (-1 : Int) < ((0 : Nat) : Int)), fun cs h => (by cases h), fun cs h => (by cases h)⟩, ?_⟩
  rintro k ⟨R1, off, pos, opv, dv⟩ ⟨p, l, hoff, hp, hk, ht, hR1, hpos, hpos2, hov, hdv⟩
  simp only at hoff hR1 hpos hpos2 hov hdv
  conv => cbv
  refine CallP.lend (next hP hOp' R1 a n c xs (h.le hR1) hn hc p off pos hoff hp ⟨hpos, hpos2⟩ opv dv hov hdv) rfl rfl ?_
  intro R2 hp' nx' rs' r hR2 hout
  rcases hout () with ⟨op, d, k', ad, s, a3, n3, c3, off', hx, hst, rfl, ho, hf, hcc, h3, -⟩ | ⟨off', pos', op, d, er, rfl, hf, hend⟩
  · refine ⟨_, _, _, hf, rfl, rfl, ?_⟩
    conv => cbv
    have hto := ht.snoc hx hst
    have hle := hto.le
    have hks := stepT_le hst
    refine ⟨xs.length - (p + k'), ⟨R2, _, _, _, _⟩, by omega, ⟨⟨rfl, trivial⟩, rfl, ⟨rfl, trivial⟩, rfl, .refl _⟩, p + k', _, ho, by omega, rfl, hto, RO.le_trans hR1 hR2, by show -1 ≤ pos + 1; omega, by show pos + 1 < ((p + k' : Nat) : Int); omega, fun cs h => (by cases h), fun cs h => (by cases h)⟩
  · refine ⟨_, _, _, hf, rfl, rfl, ?_⟩
    conv => cbv
    refine callP_in (fz := []) hP hA Try.func41 rfl (by decide) rfl ok41 (by simp [labL, lab]) ?_
    conv => cbv
    intro ρ R'' _ _ _
    rcases hend with ⟨hpe, rfl⟩ | ⟨hpl, hst, s, rfl⟩
    · exact .inl ⟨⟨l, by rw [← hpe]; exact ht⟩, rfl⟩
    · exact .inr ⟨not_wh ht hpl hst, s, rfl⟩

/-- Unspendable. -/
def Uns (xs : List Int) : Prop := (0 < xs.length ∧ xs.getD 0 0 = 106) ∨ 10000 < xs.length ∨ ¬ Wh xs


set_option maxRecDepth 100000 in
theorem unsPkg {P : Program} (hP : P = Try.prog) (hOp : OpSpec Try.prog) (R : RO) (a : Option Addr) (n c : Nat) (xs : List Int) (h : RI R .u8 a n xs) (hn : n ≤ 100000) (hc : n ≤ c) :
    RetP P 33 [.slice a n c] R fun _ v => ∃ r, v = .bool r ∧ (r = true ↔ Uns xs) := by
  subst hP
  have hl := h.len
  refine retP_vc (fz := []) Try.func33 rfl (by decide) rfl ok33 ?_
  intro P bin cmp cnv neg com bnot beq ofN toN at_ sub_ scmp cat sget ssz ssub elem fld_ hP hA
  conv => cbv
  have o := ofN_ hA n
  by_cases h0 : 0 < n
  · have d1 : cmp .gtr (ofN n) 0 = true := by rw [o, cmp_gtr hA]; simp; omega
    simp only [d1]
    conv => cbv
    refine ix_u8 hA h 0 rfl (by omega) ?_
    refine ld_u8 hA h (by omega) (by omega) ?_
    intro b hb b0 b1
    have hb' : b = xs.getD 0 0 := hb
    conv => cbv
    by_cases hr : b = 106
    · refine br_t (by rw [cmp_eql hA]; simp; omega) ?_
      conv => cbv
      intro ρ R'' _ _ _
      refine ⟨_, rfl, ?_⟩
      exact ⟨fun _ => .inl ⟨by omega, by omega⟩, fun _ => rfl⟩
    refine br_f (by rw [cmp_eql hA]; simp; omega) ?_
    conv => cbv
    have hno : ¬ (0 < xs.length ∧ xs.getD 0 0 = 106) := by omega
    by_cases hb : n > 10000
    · refine br_t (by rw [o, cmp_gtr hA]; simp; omega) ?_
      conv => cbv
      intro ρ R'' _ _ _
      refine ⟨_, rfl, ?_⟩
      exact ⟨fun _ => .inr (.inl (by omega)), fun _ => rfl⟩
    refine br_f (by rw [o, cmp_gtr hA]; simp; omega) ?_
    conv => cbv
    refine (parses hP hOp R a n c xs h hn hc).callQ rfl ?_
    rintro _ (⟨hw, rfl⟩ | ⟨hw, s, rfl⟩)
    · conv => cbv
      intro ρ R'' _ _ _
      refine ⟨_, rfl, ?_⟩
      rw [bnot_ hA]
      refine ⟨fun h => (by cases h), fun hu => ?_⟩
      rcases hu with hu | hu | hu
      · exact absurd hu hno
      · omega
      · exact absurd hw hu
    · conv => cbv
      intro ρ R'' _ _ _
      refine ⟨_, rfl, ?_⟩
      rw [bnot_ hA]
      exact ⟨fun _ => .inr (.inr hw), fun _ => rfl⟩
  · have d1 : cmp .gtr (ofN n) 0 = false := by rw [o, cmp_gtr hA]; simp; omega
    simp only [d1]
    conv => cbv
    have hno : ¬ (0 < xs.length ∧ xs.getD 0 0 = 106) := by omega
    by_cases hb : n > 10000
    · refine br_t (by rw [o, cmp_gtr hA]; simp; omega) ?_
      conv => cbv
      intro ρ R'' _ _ _
      refine ⟨_, rfl, ?_⟩
      exact ⟨fun _ => .inr (.inl (by omega)), fun _ => rfl⟩
    refine br_f (by rw [o, cmp_gtr hA]; simp; omega) ?_
    conv => cbv
    refine (parses hP hOp R a n c xs h hn hc).callQ rfl ?_
    rintro _ (⟨hw, rfl⟩ | ⟨hw, s, rfl⟩)
    · conv => cbv
      intro ρ R'' _ _ _
      refine ⟨_, rfl, ?_⟩
      rw [bnot_ hA]
      refine ⟨fun h => (by cases h), fun hu => ?_⟩
      rcases hu with hu | hu | hu
      · exact absurd hu hno
      · omega
      · exact absurd hw hu
    · conv => cbv
      intro ρ R'' _ _ _
      refine ⟨_, rfl, ?_⟩
      rw [bnot_ hA]
      exact ⟨fun _ => .inr (.inr hw), fun _ => rfl⟩

set_option maxRecDepth 100000 in
theorem unsThin {P : Program} (hP : P = Try.prog) (hOp : OpSpec Try.prog) (R : RO) (a : Option Addr) (n c : Nat) (xs : List Int) (h : RI R .u8 a n xs) (hn : n ≤ 100000) (hc : n ≤ c) :
    RetP P 16 [.slice a n c] R fun _ v => ∃ r, v = .bool r ∧ (r = true ↔ Uns xs) := by
  subst hP
  refine retP_vc (fz := []) Try.func16 rfl (by decide) rfl ok16 ?_
  intro P bin cmp cnv neg com bnot beq ofN toN at_ sub_ scmp cat sget ssz ssub elem fld_ hP hA
  conv => cbv
  refine (unsPkg hP hOp R a n c xs h hn hc).callQ rfl ?_
  rintro _ ⟨r, rfl, hr⟩
  conv => cbv
  intro ρ R'' _ _ _
  refine ⟨_, rfl, ?_⟩
  exact hr
end Go.Proofs.Ytinbaelincgemaa.Tk
