/- A script that returns at once and pushes data: the law. -/
import Derived.Test.YtclkimgpdnldnaaNdc
set_option linter.unusedSimpArgs false
set_option linter.unusedVariables false
namespace Go.Proofs.Ytclkimgpdnldnaa.Nd
open Go Go.Se Go.Proofs Go.Proofs.Ytclkimgpdnldnaa.Tynd


set_option maxRecDepth 100000 in
theorem nullErr {P : Program} (hP : P = Try.prog) (R : RO) (a : Option Addr) (n c : Nat) (hn : 80 < n) : RetP P 74 [.slice a n c] R fun _ v => ∃ s, v = .tuple #[.slice none 0 0, .iface 148 (.agg #[.int .i64 6, .string s])] := by
  subst hP
  refine retP_vc (fz := []) Try.func74 rfl (by decide) rfl ok74 ?_
  intro P bin cmp cnv neg com bnot beq ofN toN at_ sub_ scmp cat sget ssz ssub elem fld_ hP hA
  conv => cbv
  have o := ofN_ hA n
  refine br_t (by rw [o, cmp_gtr hA]; simp; omega) ?_
  conv => cbv
  refine callP_in (fz := []) hP hA Try.func86 rfl (by decide) rfl ok86 (by simp [labL, lab]) ?_
  conv => cbv
  intro ρ R'' _ _ _
  exact ⟨_, rfl⟩

set_option maxRecDepth 100000 in
theorem thin {P : Program} (hP : P = Try.prog) (R : RO) (a : Option Addr) (n c : Nat) (xs : List Int) (h : RI R .u8 a n xs) (hne : xs ≠ [0]) :
    RetP P 36 [.slice a n c] R fun R' v => ∃ a' n' c' k, v = .tuple #[.slice a' n' c', .int .i64 k] ∧ n' ≤ 100 ∧ ((80 < n ∧ k ≠ 0) ∨ (n ≤ 80 ∧ k = 0 ∧ RI R' .u8 a' n' (106 :: push xs))) := by
  subst hP
  refine retP_vc (fz := []) Try.func36 rfl (by decide) rfl ok36 ?_
  intro P bin cmp cnv neg com bnot beq ofN toN at_ sub_ scmp cat sget ssz ssub elem fld_ hP hA
  conv => cbv
  by_cases hn : n ≤ 80
  · refine (nullScript hP R a n c xs h hn hne).callP rfl ?_
    rintro R1 _ hR1 ⟨a1, n1, c1, rfl, h1, hn1⟩
    conv => cbv
    refine (Tx.copied hP R1 a1 n1 c1 _ h1 (by omega)).callP rfl ?_
    rintro R2 _ hR2 ⟨a2, n2, c2, rfl, hn2, h2, -⟩
    conv => cbv
    refine callP_in (fz := []) hP hA Try.func55 rfl (by decide) rfl ok55 (by simp [labL, lab]) ?_
    conv => cbv
    intro ρ R'' hle _ _
    exact ⟨a2, n2, c2, 0, rfl, by omega, .inr ⟨hn, rfl, h2.le hle⟩⟩
  · refine (nullErr hP R a n c (by omega)).callP rfl ?_
    rintro R1 _ hR1 ⟨s, rfl⟩
    conv => cbv
    refine (Tx.copied hP R1 none 0 0 [] RI.nil (by omega)).callP rfl ?_
    rintro R2 _ hR2 ⟨a2, n2, c2, rfl, hn2, h2, -⟩
    conv => cbv
    refine callP_in (fz := []) hP hA Try.func55 rfl (by decide) rfl ok55 (by simp [labL, lab]) ?_
    conv => cbv
    intro ρ R'' hle _ _
    refine ⟨a2, n2, c2, _, rfl, by omega, .inl ⟨by omega, ?_⟩⟩
    show bin .add .i64 6 1 ≠ 0
    rw [add_i64 hA (by omega)]
    decide

set_option maxRecDepth 100000 in
theorem zero {P : Program} (hP : P = Try.prog) (R : RO) (a : Option Addr) (n c : Nat) (xs : List Int) (h : RI R .u8 a n xs) : RetP P 35 [.slice a n c] R fun _ v => ∃ r, v = .bool r ∧ (r = true ↔ xs = [0]) := by
  subst hP
  have hl := h.len
  refine retP_vc (fz := []) Try.func35 rfl (by decide) rfl ok35 ?_
  intro P bin cmp cnv neg com bnot beq ofN toN at_ sub_ scmp cat sget ssz ssub elem fld_ hP hA
  conv => cbv
  have o := ofN_ hA n
  by_cases n1 : n = 1
  · have c1 : cmp .eql (ofN n) 1 = true := by rw [o, cmp_eql hA]; simp; omega
    simp only [c1]
    conv => cbv
    refine ix_u8 hA h 0 rfl (by omega) ?_
    refine ld_u8 hA h (by omega) (by omega) ?_
    intro b hb b0 b1
    conv => cbv
    intro ρ R'' _ _ _
    refine ⟨_, rfl, ?_⟩
    have hxs : xs = [b] := by
      match xs, (by omega : xs.length = 1) with
      | [x], _ => rw [hb]; rfl
    rw [cmp_eql hA, hxs]
    simp
  · have c1 : cmp .eql (ofN n) 1 = false := by rw [o, cmp_eql hA]; simp; omega
    simp only [c1]
    conv => cbv
    intro ρ R'' _ _ _
    refine ⟨_, rfl, ⟨fun h => (by cases h), fun h => ?_⟩⟩
    rw [h] at hl
    exact absurd hl n1

set_option maxRecDepth 100000 in
theorem law11 (R : RO) (a : Option Addr) (n c : Nat) (xs : List Int) (h : RI R .u8 a n xs) (hmx : n ≤ 9223372036854775807) : RetP Try.prog 11 [.slice a n c] R fun _ v => v = .bool true := by
  have hl := h.len
  refine retP_vc (fz := []) Try.func11 rfl (by decide) rfl ok11 ?_
  intro P bin cmp cnv neg com bnot beq ofN toN at_ sub_ scmp cat sget ssz ssub elem fld_ hP hA
  conv => cbv
  have o := ofN_ hA n
  by_cases h1 : n > 2147483647
  · refine br_t (by rw [o, cmp_gtr hA]; simp; omega) ?_
    conv => cbv
    intro ρ R'' _ _ _
    rfl
  refine br_f (by rw [o, cmp_gtr hA]; simp; omega) ?_
  conv => cbv
  by_cases h2 : n > 100000
  · have c1 : cmp .gtr (ofN n) 100000 = true := by rw [o, cmp_gtr hA]; simp; omega
    simp only [c1]
    conv => cbv
    intro ρ R'' _ _ _
    rfl
  have c1 : cmp .gtr (ofN n) 100000 = false := by rw [o, cmp_gtr hA]; simp; omega
  simp only [c1]
  conv => cbv
  refine (zero hP R a n c xs h).callQ rfl ?_
  rintro _ ⟨r, rfl, hr⟩
  conv => cbv
  refine br_of (fun hb => ?_) (fun hb => ?_)
  · conv => cbv
    intro ρ R'' _ _ _
    rfl
  have hne : xs ≠ [0] := fun he => by rw [hr.2 he] at hb; cases hb
  conv => cbv
  refine (thin hP R a n c xs h hne).callP rfl ?_
  rintro R1 _ hR1 ⟨a1, n1, c1', k, rfl, hn1, ⟨h80, hk⟩ | ⟨h80, rfl, h3⟩⟩
  · conv => cbv
    refine br_t (by rw [o, cmp_gtr hA]; simp; omega) ?_
    conv => cbv
    intro ρ R'' _ _ _
    show Value.bool (cmp .neq k 0) = .bool true
    rw [cmp_neq hA]
    simpa using hk
  conv => cbv
  refine br_f (by rw [o, cmp_gtr hA]; simp; omega) ?_
  conv => cbv
  have c2 : cmp .eql 0 0 = true := by rw [cmp_eql hA]; rfl
  simp only [c2]
  conv => cbv
  refine (pushed hP R1 a n c xs (h.le hR1) h80).call rfl ?_
  intro b m d y rs hb hs ⟨hm, hy⟩
  have hpl := push_len (xs := xs)
  conv => cbv
  refine ⟨1, [.int .u8 106], _, _, [], m, y, .own _ _ _ _ rfl rfl rfl rfl (by decide), List.nil_sublist _, hb.src hs (by rw [hy, ints_len]; omega) (by rw [hy]; exact ints_one _ _), by omega, by omega, ?_⟩
  intro a' n' c' z' hn' hz' hs'
  conv => cbv
  have hpw := push_wf h.wf (by omega)
  have hz : z' = ints .u8 (106 :: push xs) := by rw [hz', hy]; rfl
  have hnl : n' = (106 :: push xs).length := by rw [List.length_cons, hn', hm]; omega
  refine RetP.callLend (Φ := fun v => ∃ r, v = .bool r ∧ (r = true ↔ (106 :: push xs) = (106 :: push xs))) (vs := [.slice a1 n1 c1', .slice a' n' c']) 0 (r := ⟨a', n', c', 5, 1, z'⟩) rfl (fun R2 hR2 hpr => ?_) rfl ?_ ⟨_, by rw [hP]; exact Try.func23, by decide, rfl⟩
  · exact Tx.sameL hP R2 a1 a' n1 n' c1' c' _ _ (h3.le hR2) (hpr.ri hnl hs' rfl hz hpw) (by omega) (by omega)
  rintro _ ⟨r2, rfl, hr2⟩
  obtain rfl : r2 = true := hr2.2 rfl
  conv => cbv
  intro ρ R'' _ _ _
  rfl
end Go.Proofs.Ytclkimgpdnldnaa.Nd
