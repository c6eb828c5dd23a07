/- A script on one line, by the reference. -/
import Derived.Test.YthhlbpahndfdhaaDst
import Derived.Test.YthhlbpahndfdhaaTkc
import Derived.Test.YthhlbpahndfdhaaDsw
import Derived.Test.YthhlbpahndfdhaaTydh
set_option linter.unusedSimpArgs false
set_option linter.unusedVariables false
namespace Go.Proofs.Ythhlbpahndfdhaa.Ds
open Go Go.Se Go.Proofs Go.Proofs.Ythhlbpahndfdhaa.Tydh
open Go.Proofs.Ythhlbpahndfdhaa.Tk (Tok Toks stepT_le TokAt tokens Done)

theorem toks_mem {xs : List Int} (hxs : ∀ x ∈ xs, 0 ≤ x ∧ x ≤ 255) {l : List Tok} {p : Nat} (h : Toks xs l p) : ∀ t ∈ l, 0 ≤ t.op ∧ t.op ≤ 255 ∧ t.data.length ≤ xs.length := by
  induction h with
  | nil => intro t ht; cases ht
  | @snoc l p op d k h ho hs ih =>
    intro t ht
    rcases List.mem_append.1 ht with ht | ht
    · exact ih t ht
    · rw [List.mem_singleton.1 ht]
      have h1 := hxs _ (List.mem_of_getElem? ho)
      have h2 := stepT_le hs
      rw [List.length_drop] at h2
      exact ⟨h1.1, h1.2, by show d.length ≤ xs.length; omega⟩

theorem J_app (a b : List Tok) : (J a).length ≤ (J (a ++ b)).length := by
  cases a with
  | nil => exact Nat.zero_le _
  | cons x r => simp [J]

theorem J_len {xs : List Int} (hxs : ∀ x ∈ xs, 0 ≤ x ∧ x ≤ 255) {l : List Tok} {p : Nat} (h : Toks xs l p) : (J l).length ≤ 43 * p := by
  induction h with
  | nil => exact Nat.le_refl _
  | @snoc l p op d k h ho hs ih =>
    have h1 := hxs _ (List.mem_of_getElem? ho)
    have h2 := stepT_le hs
    have h3 := piece_len (m := d.length) h1.1 h1.2 (d := d) (Nat.le_refl _)
    by_cases hl : l = []
    · subst hl
      rw [List.nil_append, J_one]
      show (piece op d).length ≤ _
      omega
    · rw [J_snoc _ _ hl, List.length_append, List.length_cons]
      show (J l).length + ((piece op d).length + 1) ≤ _
      omega

structure Lz where
  i : Int
  s : ByteArray



set_option maxRecDepth 100000 in
set_option maxHeartbeats 4000000 in
theorem disS {P : Program} (hP : P = Try.prog) (R : RO) (a : Option Addr) (n c : Nat) (xs : List Int) (h : RI R .u8 a n xs) (hn : n ≤ 100000) (hc : n ≤ c) :
    RetP P 5 [.slice a n c] R fun _ r => ∃ (l : List Tok) (p : Nat) (bs : ByteArray) (ok : Bool), r = .tuple #[.string bs, .bool ok] ∧ Toks xs l p ∧
      ((p = xs.length ∧ ok = true ∧ SB bs (disL l true)) ∨ (p < xs.length ∧ Tk.stepT (xs.drop p) = none ∧ ok = false ∧ SB bs (disL l false))) := by
  subst hP
  have hl := h.len
  refine retP_vc (fz := []) Try.func5 rfl (by decide) rfl ok5 ?_
  intro P bin cmp cnv neg com bnot beq ofN toN at_ sub_ scmp cat sget ssz ssub elem fld_ hP hA
  conv => cbv
  refine (tokens hP R a n c xs h hn hc).callP rfl ?_
  rintro R1 _ hR1 ⟨a1, n1, c1, bad, l, p, rfl, ht, hl1, hd⟩
  have hln := hl1.len
  have htl := ht.le
  have hxb : ∀ x ∈ xs, 0 ≤ x ∧ x ≤ 255 := fun x hx => wf_u8 (h.wf x hx)
  have hmem := toks_mem hxb ht
  have hJl := J_len hxb ht
  conv => cbv
  have o1 := ofN_ hA n1
  refine ⟨Lz, fun x => ⟨[(7, .v (.int .i64 x.i)), (6, .v (.string x.s)), (4, .v (.slice a1 n1 c1)), (5, .v (.int .i64 bad))], R1, [], 0, []⟩,
    fun k x => ∃ j : Nat, x.i = j ∧ j ≤ n1 ∧ k = n1 - j ∧ SB x.s (J (l.take j)),
    ⟨n1, ⟨0, ⟨#[]⟩⟩, ⟨⟨rfl, rfl, rfl, rfl, trivial⟩, rfl, trivial, rfl, .refl _⟩, 0, rfl, Nat.zero_le _, rfl, rfl⟩, ?_⟩
  rintro k ⟨i, s⟩ ⟨j, hi, hj, hk, hs⟩
  simp only at hi hs
  have hJj : (J (l.take j)).length ≤ 43 * p := by
    have := J_app (l.take j) (l.drop j)
    rw [List.take_append_drop] at this
    omega
  have hsz := hs.size
  conv => cbv
  by_cases hlt : j < n1
  case neg =>
    refine br_f (by rw [o1, cmp_lss hA]; simp; omega) ?_
    conv => cbv
    rw [List.take_of_length_le (by omega)] at hs
    rcases hd with ⟨hbad, hpe⟩ | ⟨hbad, hpl, hst⟩
    · refine br_f (by rw [hbad, cmp_geq hA]; rfl) ?_
      conv => cbv
      intro ρ R'' _ _ _
      have hbb : cmp .lss bad 0 = true := by rw [hbad, cmp_lss hA]; rfl
      exact ⟨l, p, s, _, rfl, ht, .inl ⟨hpe, hbb, hs⟩⟩
    refine br_t (by rw [hbad, cmp_geq hA]; simp) ?_
    conv => cbv
    have hbb : cmp .lss bad 0 = false := by rw [hbad, cmp_lss hA]; simp
    by_cases hl0 : l = []
    · have hn0 : n1 = 0 := by rw [hln, hl0]; rfl
      refine br_f (by rw [o1, hn0, cmp_gtr hA]; rfl) ?_
      conv => cbv
      have hz9 : s.size + 7 ≤ 9223372036854775807 := by rw [hs.size, hl0]; decide
      refine ⟨hz9, ?_⟩
      conv => cbv
      intro ρ R'' _ _ _
      refine ⟨l, p, _, _, rfl, ht, .inr ⟨hpl, hst, hbb, ?_⟩⟩
      rw [hl0] at hs ⊢
      exact sb_cat hA hs rfl
    have hn0 : n1 ≠ 0 := fun e => hl0 (List.eq_nil_of_length_eq_zero (by omega))
    refine br_t (by rw [o1, cmp_gtr hA]; simp; omega) ?_
    conv => cbv
    have hz9 : s.size + 1 ≤ 9223372036854775807 := by rw [hs.size]; omega
    refine ⟨hz9, ?_⟩
    conv => cbv
    have hs2 : SB (cat s ⟨#[32]⟩) (J l ++ [32]) := sb_cat hA hs rfl
    have hz8 : (cat s ⟨#[32]⟩).size + 7 ≤ 9223372036854775807 := by rw [hs2.size, List.length_append]; show _ + 1 + 7 ≤ _; omega
    refine ⟨hz8, ?_⟩
    conv => cbv
    intro ρ R'' _ _ _
    refine ⟨l, p, _, _, rfl, ht, .inr ⟨hpl, hst, hbb, ?_⟩⟩
    rw [disL, if_neg (by decide), if_neg hl0, show J l ++ 32 :: errL = J l ++ [32] ++ errL by rw [List.append_assoc]; rfl]
    exact sb_cat hA hs2 rfl
  refine br_t (by rw [o1, cmp_lss hA]; simp; omega) ?_
  conv => cbv
  obtain ⟨⟨op, d, ps⟩, hjt⟩ : ∃ t, l[j]? = some t := ⟨_, List.getElem?_eq_getElem (by omega)⟩
  have hop : 0 ≤ op ∧ op ≤ 255 ∧ d.length ≤ xs.length := hmem _ (List.mem_of_getElem? hjt)
  have htk : l.take (j + 1) = l.take j ++ [⟨op, d, ps⟩] := by rw [List.take_add_one, hjt]; rfl
  have hxj : bin .add .i64 i 1 = ((j + 1 : Nat) : Int) := by rw [hi, add_i64 hA (by omega)]; rfl
  by_cases hj0 : j = 0
  · refine br_f (by rw [hi, hj0, cmp_gtr hA]; rfl) ?_
    conv => cbv
    have hJ1 : J (l.take (j + 1)) = J (l.take j) ++ piece op d := by rw [htk, hj0]; exact J_one _
    have hsz1 := SB.size hs
    refine ix_at hA hl1 j hi hlt ?_
    refine ld_fld hA hl1 j hi hjt 0 ?_
    rintro _ - ⟨a5, n5, c5, rfl, h5, -⟩
    refine ⟨_, rfl, ?_⟩
    conv => cbv
    refine (smallS hP R1 op hop.1 hop.2.1).callQ rfl ?_
    rintro _ ⟨sn, sb, rfl, hsb, hs0, hs1⟩
    conv => cbv
    by_cases hsm : op = 0 ∨ (81 ≤ op ∧ op ≤ 96)
    · rw [decide_eq_true hsm] at hsb
      subst hsb
      conv => cbv
      obtain ⟨N, hN⟩ : ∃ N : Nat, sn = N := ⟨sn.toNat, by omega⟩
      have hN3 : N < 1000 := by omega
      have hpc : piece op d = decL N := by
        unfold piece
        by_cases h0 : op = 0
        · rw [if_pos h0, show N = 0 by omega]
        · rw [if_neg h0, if_pos (by omega), show (op - 80).toNat = N by omega]
      refine (decS hP R1 N sn hN hN3).callQ rfl ?_
      rintro _ ⟨s9, rfl, hs9⟩
      conv => cbv
      have hz9 : ByteArray.size s + s9.size ≤ 9223372036854775807 := by
        have := decL_len N
        rw [hsz1, hs9.size]
        omega
      refine ⟨hz9, ?_⟩
      conv => cbv
      rw [← hpc] at hs9
      have hfin : SB (cat s s9) (J (l.take (j + 1))) := by rw [hJ1]; exact sb_cat hA hs hs9
      exact ⟨n1 - (j + 1), ⟨bin .add .i64 i 1, (cat s s9)⟩, by omega, ⟨⟨rfl, rfl, rfl, rfl, trivial⟩, rfl, trivial, rfl, .refl _⟩, j + 1, hxj, hlt, rfl, hfin⟩
    rw [decide_eq_false hsm] at hsb
    subst hsb
    conv => cbv
    refine ix_at hA hl1 j hi hlt ?_
    refine ld_fld hA hl1 j hi hjt 0 ?_
    rintro _ - ⟨a6, n6, c6, rfl, h6, -⟩
    refine ⟨_, rfl, ?_⟩
    conv => cbv
    by_cases h79 : op = 79
    · refine br_t (by rw [h79, cmp_eql hA]; rfl) ?_
      conv => cbv
      have hpc : piece op d = [45, 49] := by unfold piece; rw [if_neg (by omega), if_neg (by omega), if_pos h79]
      have hz9 : ByteArray.size s + 2 ≤ 9223372036854775807 := by rw [hsz1]; omega
      refine ⟨hz9, ?_⟩
      conv => cbv
      have hfin : SB (cat s ⟨#[45, 49]⟩) (J (l.take (j + 1))) := by rw [hJ1, hpc]; exact sb_cat hA hs rfl
      exact ⟨n1 - (j + 1), ⟨bin .add .i64 i 1, (cat s ⟨#[45, 49]⟩)⟩, by omega, ⟨⟨rfl, rfl, rfl, rfl, trivial⟩, rfl, trivial, rfl, .refl _⟩, j + 1, hxj, hlt, rfl, hfin⟩
    refine br_f (by rw [cmp_eql hA]; exact beq_false_of_ne h79) ?_
    conv => cbv
    refine ix_at hA hl1 j hi hlt ?_
    refine ld_fld hA hl1 j hi hjt 0 ?_
    rintro _ - ⟨a7, n7, c7, rfl, h7, -⟩
    refine ⟨_, rfl, ?_⟩
    conv => cbv
    by_cases h78 : op ≤ 78
    · refine br_t (by rw [cmp_leq hA]; exact decide_eq_true h78) ?_
      conv => cbv
      have hpc : piece op d = hexL d := by unfold piece; rw [if_neg (by omega), if_neg (by omega), if_neg h79, if_pos h78]
      refine ix_at hA hl1 j hi hlt ?_
      refine ld_fld hA hl1 j hi hjt 1 ?_
      rintro _ - ⟨a8, n8, c8, rfl, h8, -⟩
      have h8 : RI R1 .u8 a8 n8 d := h8
      refine ⟨_, rfl, ?_⟩
      conv => cbv
      have hl8 := h8.len
      refine (hexS hP R1 a8 n8 c8 d h8 (by omega)).callQ rfl ?_
      rintro _ ⟨s9, rfl, hs9⟩
      conv => cbv
      have hz9 : ByteArray.size s + s9.size ≤ 9223372036854775807 := by
        rw [hsz1, hs9.size, hexL_len]
        omega
      refine ⟨hz9, ?_⟩
      conv => cbv
      rw [← hpc] at hs9
      have hfin : SB (cat s s9) (J (l.take (j + 1))) := by rw [hJ1]; exact sb_cat hA hs hs9
      exact ⟨n1 - (j + 1), ⟨bin .add .i64 i 1, (cat s s9)⟩, by omega, ⟨⟨rfl, rfl, rfl, rfl, trivial⟩, rfl, trivial, rfl, .refl _⟩, j + 1, hxj, hlt, rfl, hfin⟩
    refine br_f (by rw [cmp_leq hA]; exact decide_eq_false h78) ?_
    conv => cbv
    refine ix_at hA hl1 j hi hlt ?_
    refine ld_fld hA hl1 j hi hjt 0 ?_
    rintro _ - ⟨a8, n8, c8, rfl, h8, -⟩
    refine ⟨_, rfl, ?_⟩
    conv => cbv
    have hpc : piece op d = nmL op := by unfold piece; rw [if_neg (by omega), if_neg (by omega), if_neg h79, if_neg h78]
    refine (nameC hP R1 op hop.1 hop.2.1 (by omega)).callQ rfl ?_
    rintro _ ⟨s9, rfl, hs9⟩
    conv => cbv
    have hz9 : ByteArray.size s + s9.size ≤ 9223372036854775807 := by
      have := nm_len hop.1 hop.2.1
      rw [hsz1, hs9.size]
      omega
    refine ⟨hz9, ?_⟩
    conv => cbv
    rw [← hpc] at hs9
    have hfin : SB (cat s s9) (J (l.take (j + 1))) := by rw [hJ1]; exact sb_cat hA hs hs9
    exact ⟨n1 - (j + 1), ⟨bin .add .i64 i 1, (cat s s9)⟩, by omega, ⟨⟨rfl, rfl, rfl, rfl, trivial⟩, rfl, trivial, rfl, .refl _⟩, j + 1, hxj, hlt, rfl, hfin⟩
  refine br_t (by rw [hi, cmp_gtr hA]; simp; omega) ?_
  conv => cbv
  have hz9 : s.size + 1 ≤ 9223372036854775807 := by rw [hsz]; omega
  refine ⟨hz9, ?_⟩
  conv => cbv
  have hs2 : SB (cat s ⟨#[32]⟩) (J (l.take j) ++ [32]) := sb_cat hA hs rfl
  have hJ1 : J (l.take (j + 1)) = J (l.take j) ++ [32] ++ piece op d := by
    rw [htk, J_snoc _ _ (fun e => hj0 (by have := congrArg List.length e; rw [List.length_take, List.length_nil] at this; omega)), List.append_assoc]
    rfl
  have hb32 : (J (l.take j) ++ [32]).length = (J (l.take j)).length + 1 := by rw [List.length_append]; rfl
  obtain ⟨s2, hs2e⟩ : ∃ s2, s2 = cat s ⟨#[32]⟩ := ⟨_, rfl⟩
  simp (maxSteps := 10000000) only [← hs2e]
  rw [← hs2e] at hs2
  have hsz1 := SB.size hs2
  refine ix_at hA hl1 j hi hlt ?_
  refine ld_fld hA hl1 j hi hjt 0 ?_
  rintro _ - ⟨a5, n5, c5, rfl, h5, -⟩
  refine ⟨_, rfl, ?_⟩
  conv => cbv
  refine (smallS hP R1 op hop.1 hop.2.1).callQ rfl ?_
  rintro _ ⟨sn, sb, rfl, hsb, hs0, hs1⟩
  conv => cbv
  by_cases hsm : op = 0 ∨ (81 ≤ op ∧ op ≤ 96)
  · rw [decide_eq_true hsm] at hsb
    subst hsb
    conv => cbv
    obtain ⟨N, hN⟩ : ∃ N : Nat, sn = N := ⟨sn.toNat, by omega⟩
    have hN3 : N < 1000 := by omega
    have hpc : piece op d = decL N := by
      unfold piece
      by_cases h0 : op = 0
      · rw [if_pos h0, show N = 0 by omega]
      · rw [if_neg h0, if_pos (by omega), show (op - 80).toNat = N by omega]
    refine (decS hP R1 N sn hN hN3).callQ rfl ?_
    rintro _ ⟨s9, rfl, hs9⟩
    conv => cbv
    have hz9 : ByteArray.size s2 + s9.size ≤ 9223372036854775807 := by
      have := decL_len N
      rw [hsz1, hs9.size]
      omega
    refine ⟨hz9, ?_⟩
    conv => cbv
    rw [← hpc] at hs9
    have hfin : SB (cat s2 s9) (J (l.take (j + 1))) := by rw [hJ1]; exact sb_cat hA hs2 hs9
    exact ⟨n1 - (j + 1), ⟨bin .add .i64 i 1, (cat s2 s9)⟩, by omega, ⟨⟨rfl, rfl, rfl, rfl, trivial⟩, rfl, trivial, rfl, .refl _⟩, j + 1, hxj, hlt, rfl, hfin⟩
  rw [decide_eq_false hsm] at hsb
  subst hsb
  conv => cbv
  refine ix_at hA hl1 j hi hlt ?_
  refine ld_fld hA hl1 j hi hjt 0 ?_
  rintro _ - ⟨a6, n6, c6, rfl, h6, -⟩
  refine ⟨_, rfl, ?_⟩
  conv => cbv
  by_cases h79 : op = 79
  · refine br_t (by rw [h79, cmp_eql hA]; rfl) ?_
    conv => cbv
    have hpc : piece op d = [45, 49] := by unfold piece; rw [if_neg (by omega), if_neg (by omega), if_pos h79]
    have hz9 : ByteArray.size s2 + 2 ≤ 9223372036854775807 := by rw [hsz1]; omega
    refine ⟨hz9, ?_⟩
    conv => cbv
    have hfin : SB (cat s2 ⟨#[45, 49]⟩) (J (l.take (j + 1))) := by rw [hJ1, hpc]; exact sb_cat hA hs2 rfl
    exact ⟨n1 - (j + 1), ⟨bin .add .i64 i 1, (cat s2 ⟨#[45, 49]⟩)⟩, by omega, ⟨⟨rfl, rfl, rfl, rfl, trivial⟩, rfl, trivial, rfl, .refl _⟩, j + 1, hxj, hlt, rfl, hfin⟩
  refine br_f (by rw [cmp_eql hA]; exact beq_false_of_ne h79) ?_
  conv => cbv
  refine ix_at hA hl1 j hi hlt ?_
  refine ld_fld hA hl1 j hi hjt 0 ?_
  rintro _ - ⟨a7, n7, c7, rfl, h7, -⟩
  refine ⟨_, rfl, ?_⟩
  conv => cbv
  by_cases h78 : op ≤ 78
  · refine br_t (by rw [cmp_leq hA]; exact decide_eq_true h78) ?_
    conv => cbv
    have hpc : piece op d = hexL d := by unfold piece; rw [if_neg (by omega), if_neg (by omega), if_neg h79, if_pos h78]
    refine ix_at hA hl1 j hi hlt ?_
    refine ld_fld hA hl1 j hi hjt 1 ?_
    rintro _ - ⟨a8, n8, c8, rfl, h8, -⟩
    have h8 : RI R1 .u8 a8 n8 d := h8
    refine ⟨_, rfl, ?_⟩
    conv => cbv
    have hl8 := h8.len
    refine (hexS hP R1 a8 n8 c8 d h8 (by omega)).callQ rfl ?_
    rintro _ ⟨s9, rfl, hs9⟩
    conv => cbv
    have hz9 : ByteArray.size s2 + s9.size ≤ 9223372036854775807 := by
      rw [hsz1, hs9.size, hexL_len]
      omega
    refine ⟨hz9, ?_⟩
    conv => cbv
    rw [← hpc] at hs9
    have hfin : SB (cat s2 s9) (J (l.take (j + 1))) := by rw [hJ1]; exact sb_cat hA hs2 hs9
    exact ⟨n1 - (j + 1), ⟨bin .add .i64 i 1, (cat s2 s9)⟩, by omega, ⟨⟨rfl, rfl, rfl, rfl, trivial⟩, rfl, trivial, rfl, .refl _⟩, j + 1, hxj, hlt, rfl, hfin⟩
  refine br_f (by rw [cmp_leq hA]; exact decide_eq_false h78) ?_
  conv => cbv
  refine ix_at hA hl1 j hi hlt ?_
  refine ld_fld hA hl1 j hi hjt 0 ?_
  rintro _ - ⟨a8, n8, c8, rfl, h8, -⟩
  refine ⟨_, rfl, ?_⟩
  conv => cbv
  have hpc : piece op d = nmL op := by unfold piece; rw [if_neg (by omega), if_neg (by omega), if_neg h79, if_neg h78]
  refine (nameC hP R1 op hop.1 hop.2.1 (by omega)).callQ rfl ?_
  rintro _ ⟨s9, rfl, hs9⟩
  conv => cbv
  have hz9 : ByteArray.size s2 + s9.size ≤ 9223372036854775807 := by
    have := nm_len hop.1 hop.2.1
    rw [hsz1, hs9.size]
    omega
  refine ⟨hz9, ?_⟩
  conv => cbv
  rw [← hpc] at hs9
  have hfin : SB (cat s2 s9) (J (l.take (j + 1))) := by rw [hJ1]; exact sb_cat hA hs2 hs9
  exact ⟨n1 - (j + 1), ⟨bin .add .i64 i 1, (cat s2 s9)⟩, by omega, ⟨⟨rfl, rfl, rfl, rfl, trivial⟩, rfl, trivial, rfl, .refl _⟩, j + 1, hxj, hlt, rfl, hfin⟩
end Go.Proofs.Ythhlbpahndfdhaa.Ds
