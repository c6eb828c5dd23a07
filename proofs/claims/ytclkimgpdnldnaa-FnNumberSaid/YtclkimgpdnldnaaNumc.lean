/- Numbers of scripts: the program's reading. -/
import Derived.Test.YtclkimgpdnldnaaNumb
set_option linter.unusedSimpArgs false
set_option linter.unusedVariables false
namespace Go.Proofs.Ytclkimgpdnldnaa.Num
open Go Go.Se Go.Proofs

/-- An error of the package, with this code. -/
def isErr (c : Int) (v : Value) : Prop := ∃ d, v = .iface 148 (.agg #[.int .i64 c, .string d])

set_option maxRecDepth 100000 in
theorem chk_any {P : Program} (hP : P = Try.prog) (R : RO) (a : Option Addr) (n cap : Nat) (xs : List Int) (h : RI R .u8 a n xs) (hn : n ≤ 100000) :
    RetP P 87 [.slice a n cap] R fun _ v => (short xs → v = .nilIface) ∧ (¬ short xs → isErr 30 v) := by
  subst hP
  have hl := h.len
  refine retP_vc Try.func87 rfl (by decide) rfl ok87 ?_
  intro P bin cmp cnv neg com bnot beq ofN toN at_ sub_ scmp cat sget ssz ssub elem fld_ hP hA
  conv => cbv
  have o := ofN_ hA n
  by_cases h0 : n = 0
  · refine br_t (by rw [o, cmp_eql hA]; simp; omega) ?_
    conv => cbv
    intro ρ R'' _ _
    exact ⟨fun _ => rfl, fun hs => absurd (.inl (List.eq_nil_of_length_eq_zero (by omega))) hs⟩
  refine br_f (by rw [o, cmp_eql hA]; simp; omega) ?_
  conv => cbv
  have s1 : bin .sub .i64 (ofN n) 1 = n - 1 := by rw [o]; exact sub_i64 hA (by omega)
  refine ix_u8 hA h (n - 1) (by rw [s1]; omega) (by omega) ?_
  refine ld_u8 hA h (by rw [s1]; omega) (by rw [s1]; omega) ?_
  intro c hc c0 c1
  rw [s1, show ((n : Int) - 1).toNat = n - 1 by omega, last_of hl] at hc
  conv => cbv
  have a1 := and127_u8 (bin_is hA) c c0 c1
  by_cases h1 : c % 128 = 0
  · refine br_t (by rw [a1, cmp_eql hA, h1]; rfl) ?_
    conv => cbv
    by_cases h2 : n = 1
    · have g1 : cmp .eql (ofN n) 1 = true := by rw [o, cmp_eql hA]; simp; omega
      simp only [g1]
      conv => cbv
      refine callP_in hP hA Try.func86 rfl (by decide) rfl ok86 (by simp [labL, lab]) ?_
      conv => cbv
      intro ρ R'' _ _
      refine ⟨fun hs => ?_, fun _ => ⟨_, rfl⟩⟩
      rcases hs with hx | hx | ⟨hx, _⟩
      · rw [hx] at hl; simp at hl; omega
      · rw [← hc] at hx; exact absurd h1 hx
      · omega
    · have g1 : cmp .eql (ofN n) 1 = false := by rw [o, cmp_eql hA]; simp; omega
      simp only [g1]
      conv => cbv
      have s2 : bin .sub .i64 (ofN n) 2 = n - 2 := by rw [o]; exact sub_i64 hA (by omega)
      refine ix_u8 hA h (n - 2) (by rw [s2]; omega) (by omega) ?_
      refine ld_u8 hA h (by rw [s2]; omega) (by rw [s2]; omega) ?_
      intro d hd d0 d1
      rw [s2, show ((n : Int) - 2).toNat = n - 2 by omega, hl] at hd
      conv => cbv
      have a2 := and128_u8 (bin_is hA) d d0 d1
      by_cases h3 : 128 ≤ d
      · rw [if_pos h3] at a2
        refine br_f (by rw [a2, cmp_eql hA]; rfl) ?_
        conv => cbv
        intro ρ R'' _ _
        refine ⟨fun _ => rfl, fun hs => absurd ?_ hs⟩
        exact .inr (.inr ⟨by omega, by rw [← hd]; exact h3⟩)
      · rw [if_neg h3] at a2
        refine br_t (by rw [a2, cmp_eql hA]; rfl) ?_
        conv => cbv
        refine callP_in hP hA Try.func86 rfl (by decide) rfl ok86 (by simp [labL, lab]) ?_
        conv => cbv
        intro ρ R'' _ _
        refine ⟨fun hs => ?_, fun _ => ⟨_, rfl⟩⟩
        rcases hs with hx | hx | ⟨_, hx⟩
        · rw [hx] at hl; simp at hl; omega
        · rw [← hc] at hx; exact absurd h1 hx
        · rw [← hd] at hx; exact absurd hx h3
  · refine br_f (by rw [a1, cmp_eql hA]; simp [h1]) ?_
    conv => cbv
    intro ρ R'' _ _
    exact ⟨fun _ => rfl, fun hs => absurd (.inr (.inl (by rw [← hc]; exact h1))) hs⟩

set_option maxRecDepth 100000 in
theorem impl_long {P : Program} (hP : P = Try.prog) (R : RO) (a : Option Addr) (n cap : Nat) (m : Bool) (most : Int) (hn : n ≤ 100000) (h : most < n) :
    RetP P 54 [.slice a n cap, .bool m, .int .i64 most] R fun _ v => ∃ e, v = .tuple #[.int .i64 0, e] ∧ isErr 19 e := by
  subst hP
  refine retP_vc Try.func54 rfl (by decide) rfl ok54 ?_
  intro P bin cmp cnv neg com bnot beq ofN toN at_ sub_ scmp cat sget ssz ssub elem fld_ hP hA
  conv => cbv
  have o := ofN_ hA n
  refine br_t (by rw [o, cmp_gtr hA]; simp; omega) ?_
  conv => cbv
  refine callP_in hP hA Try.func86 rfl (by decide) rfl ok86 (by simp [labL, lab]) ?_
  conv => cbv
  intro ρ R'' _ _
  exact ⟨_, rfl, _, rfl⟩

set_option maxRecDepth 100000 in
theorem impl_min {P : Program} (hP : P = Try.prog) (R : RO) (a : Option Addr) (n cap : Nat) (xs : List Int) (hx : RI R .u8 a n xs) (most : Int) (hn : n ≤ 100000) (h : n ≤ most) (hs : ¬ short xs) :
    RetP P 54 [.slice a n cap, .bool true, .int .i64 most] R fun _ v => ∃ e, v = .tuple #[.int .i64 0, e] ∧ isErr 30 e := by
  subst hP
  refine retP_vc Try.func54 rfl (by decide) rfl ok54 ?_
  intro P bin cmp cnv neg com bnot beq ofN toN at_ sub_ scmp cat sget ssz ssub elem fld_ hP hA
  conv => cbv
  have o := ofN_ hA n
  refine br_f (by rw [o, cmp_gtr hA]; simp; omega) ?_
  conv => cbv
  refine (chk_any hP R a n cap xs hx hn).callP rfl ?_
  rintro R1 v hR1 ⟨_, hv⟩
  obtain ⟨d, rfl⟩ := hv hs
  conv => cbv
  refine br_t (by rw [bnot_ hA]; rfl) ?_
  conv => cbv
  intro ρ R'' _ _
  exact ⟨_, rfl, _, rfl⟩
end Go.Proofs.Ytclkimgpdnldnaa.Num
