/- A push of data, as the reference has it. -/
import Derived.Test.YtclkimgpdnldnaaTxc
import Derived.Test.YtclkimgpdnldnaaSz
import Derived.Test.YtclkimgpdnldnaaTynd
set_option linter.unusedSimpArgs false
set_option linter.unusedVariables false
namespace Go.Proofs.Ytclkimgpdnldnaa.Nd
open Go Go.Se Go.Proofs Go.Proofs.Ytclkimgpdnldnaa.Tynd

/-- The opcode of the shortest push, of up to 80 bytes. -/
def lst (xs : List Int) : Int :=
  if xs.length = 0 then 0 else if xs.length = 1 ∧ 1 ≤ xs.getD 0 0 ∧ xs.getD 0 0 ≤ 16 then 80 + xs.getD 0 0 else if xs.length = 1 ∧ xs.getD 0 0 = 129 then 79 else if xs.length < 76 then (xs.length : Int) else 76

def push (xs : List Int) : List Int := if lst xs = 0 ∨ 79 ≤ lst xs then [lst xs] else if 76 ≤ lst xs then [lst xs, (xs.length : Int)] ++ xs else [lst xs] ++ xs



set_option maxRecDepth 100000 in
theorem least {P : Program} (hP : P = Try.prog) (R : RO) (a : Option Addr) (n c : Nat) (xs : List Int) (h : RI R .u8 a n xs) (hn : n ≤ 80) : RetP P 75 [.slice a n c] R fun _ v => ∃ r, v = .int .i64 r ∧ r = lst xs := by
  subst hP
  have hl := h.len
  obtain ⟨b, hb⟩ : ∃ b, b = xs.getD 0 0 := ⟨_, rfl⟩
  have hb8 := h.u8 0
  rw [← hb] at hb8
  have hls : lst xs = if n = 0 then 0 else if n = 1 ∧ 1 ≤ b ∧ b ≤ 16 then 80 + b else if n = 1 ∧ b = 129 then 79 else if n < 76 then (n : Int) else 76 := by rw [lst, hb, ← hl]
  refine retP_vc (fz := []) Try.func75 rfl (by decide) rfl ok75 ?_
  intro P bin cmp cnv neg com bnot beq ofN toN at_ sub_ scmp cat sget ssz ssub elem fld_ hP hA
  conv => cbv
  have o := ofN_ hA n
  by_cases n0 : n = 0
  · refine br_t (by rw [o, cmp_eql hA]; simp; omega) ?_
    conv => cbv
    intro ρ R'' _ _ _
    refine ⟨_, rfl, ?_⟩
    rw [hls, if_pos n0]
  refine br_f (by rw [o, cmp_eql hA]; simp; omega) ?_
  conv => cbv
  rw [if_neg n0] at hls
  by_cases n1 : n = 1
  · have c1 : cmp .eql (ofN n) 1 = true := by rw [o, cmp_eql hA]; simp; omega
    have c3 : cmp .lss (ofN n) 76 = true := by rw [o, cmp_lss hA]; simp; omega
    simp only [c1]
    conv => cbv
    refine ix_u8 hA h 0 rfl (by omega) ?_
    refine ld_u8 hA h (by omega) (by omega) ?_
    intro b9 hb9 b0 b1
    have hbb : b = b9 := hb.trans hb9.symm
    subst hbb
    conv => cbv
    by_cases h1 : 1 ≤ b
    · have c2 : cmp .geq b 1 = true := by rw [cmp_geq hA]; simp; omega
      simp only [c2]
      conv => cbv
      refine ix_u8 hA h 0 rfl (by omega) ?_
      refine ld_u8 hA h (by omega) (by omega) ?_
      intro b9 hb9 b0 b1
      have hbb : b = b9 := hb.trans hb9.symm
      subst hbb
      conv => cbv
      by_cases h2 : b ≤ 16
      · have c4 : cmp .leq b 16 = true := by rw [cmp_leq hA]; simp; omega
        simp only [c4]
        conv => cbv
        refine ix_u8 hA h 0 rfl (by omega) ?_
        refine ld_u8 hA h (by omega) (by omega) ?_
        intro b9 hb9 b0 b1
        have hbb : b = b9 := hb.trans hb9.symm
        subst hbb
        conv => cbv
        intro ρ R'' _ _ _
        refine ⟨_, rfl, ?_⟩
        rw [hls, if_pos ⟨n1, h1, h2⟩]
        show bin .add .i64 80 (cnv .i64 b) = 80 + b
        rw [cnv_i64 hA (by omega), add_i64 hA (by omega)]
      · have c4 : cmp .leq b 16 = false := by rw [cmp_leq hA]; simp; omega
        simp only [c4]
        conv => cbv
        simp only [c1]
        conv => cbv
        refine ix_u8 hA h 0 rfl (by omega) ?_
        refine ld_u8 hA h (by omega) (by omega) ?_
        intro b9 hb9 b0 b1
        have hbb : b = b9 := hb.trans hb9.symm
        subst hbb
        conv => cbv
        by_cases h3 : b = 129
        · have c5 : cmp .eql b 129 = true := by rw [cmp_eql hA]; simp; omega
          simp only [c5]
          conv => cbv
          intro ρ R'' _ _ _
          refine ⟨_, rfl, ?_⟩
          rw [hls, if_neg (by omega), if_pos ⟨n1, h3⟩]
        · have c5 : cmp .eql b 129 = false := by rw [cmp_eql hA]; simp; omega
          simp only [c5]
          conv => cbv
          simp only [c3]
          conv => cbv
          intro ρ R'' _ _ _
          refine ⟨_, rfl, ?_⟩
          rw [hls, if_neg (by omega), if_neg (by omega), if_pos (by omega)]
          exact o
    · have c2 : cmp .geq b 1 = false := by rw [cmp_geq hA]; simp; omega
      simp only [c2]
      conv => cbv
      simp only [c1]
      conv => cbv
      refine ix_u8 hA h 0 rfl (by omega) ?_
      refine ld_u8 hA h (by omega) (by omega) ?_
      intro b9 hb9 b0 b1
      have hbb : b = b9 := hb.trans hb9.symm
      subst hbb
      conv => cbv
      have c5 : cmp .eql b 129 = false := by rw [cmp_eql hA]; simp; omega
      simp only [c5]
      conv => cbv
      simp only [c3]
      conv => cbv
      intro ρ R'' _ _ _
      refine ⟨_, rfl, ?_⟩
      rw [hls, if_neg (by omega), if_neg (by omega), if_pos (by omega)]
      exact o
  have c1 : cmp .eql (ofN n) 1 = false := by rw [o, cmp_eql hA]; simp; omega
  simp only [c1]
  conv => cbv
  simp only [c1]
  conv => cbv
  rw [if_neg (by omega), if_neg (by omega)] at hls
  by_cases n2 : n < 76
  · have c3 : cmp .lss (ofN n) 76 = true := by rw [o, cmp_lss hA]; simp; omega
    simp only [c3]
    conv => cbv
    intro ρ R'' _ _ _
    refine ⟨_, rfl, ?_⟩
    rw [hls, if_pos n2]
    exact o
  have c3 : cmp .lss (ofN n) 76 = false := by rw [o, cmp_lss hA]; simp; omega
  simp only [c3]
  conv => cbv
  refine br_t (by rw [o, cmp_leq hA]; simp; omega) ?_
  conv => cbv
  intro ρ R'' _ _ _
  refine ⟨_, rfl, ?_⟩
  rw [hls, if_neg n2]

theorem lst_range {xs : List Int} (h : ∀ x ∈ xs, (Lit.int .u8 x).wf = true) : 0 ≤ lst xs ∧ lst xs ≤ 96 := by
  unfold lst
  repeat' split
  all_goals omega

theorem lst_76 {xs : List Int} (h1 : 76 ≤ lst xs) (h2 : lst xs < 79) : lst xs = 76 := by
  revert h1 h2
  unfold lst
  repeat' split
  all_goals omega
end Go.Proofs.Ytclkimgpdnldnaa.Nd
