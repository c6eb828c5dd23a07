/- Groups of bits: the thin package's function, and the law. -/
import Derived.Test.YtclkimgpdnldnaaAdrb
set_option linter.unusedSimpArgs false
set_option linter.unusedVariables false
namespace Go.Proofs.Ytclkimgpdnldnaa.Adr
open Go Go.Se Go.Proofs

set_option maxRecDepth 100000 in
theorem regroup {P : Program} (hP : P = Try.prog) (R : RO) (a : Option Addr) (n cap f t : Nat) (pad : Bool) (xs : List Nat) (h : RI R .u8 a n (up xs)) (hf0 : 0 < f) (hf : f ≤ 8) (ht0 : 0 < t) (ht : t ≤ 8) (hx : ∀ x ∈ xs, x < 2 ^ f) (h7 : f ≤ 7 ∨ t ≤ 7)
    (hn : n ≤ 1000000) (fi ti : Int) (hfi : fi = f) (hti : ti = t) : RetP P 22 [.slice a n cap, .int .u8 fi, .int .u8 ti, .bool pad] R fun R' v => ∃ ys fb nb, Ce f t xs ys fb nb ∧ ∃ a' n' c' kd, v = .tuple #[.slice a' n' c', .int .i64 kd] ∧
      ((kd = 0 ∧ n' ≤ 10 * n + 10 ∧ RI R' .u8 a' n' (up (if pad = true ∧ fb ≠ 0 then ys ++ [nb * 2 ^ (t - fb)] else ys))) ∨ (pad = false ∧ ¬ (nb = 0 ∧ fb ≤ 4))) := by
  subst hP
  refine retP_vc (fz := []) Try.func22 rfl (by decide) rfl ok22 ?_
  intro P bin cmp cnv neg com bnot beq ofN toN at_ sub_ scmp cat sget ssz ssub elem fld_ hP hA
  conv => cbv
  refine (copied hP R a n cap (up xs) h (by omega)).callP rfl ?_
  rintro R1 _ hR1 ⟨a1, n1, c1, rfl, hn1, h1⟩
  conv => cbv
  refine (conv hP R1 a1 n1 c1 f t pad xs h1 hf0 hf ht0 ht hx h7 (by omega)).callP (by rw [hfi, hti]; rfl) ?_
  rintro R2 _ hR2 ⟨ys, fb, nb, hce, a2, n2, c2, er, rfl, ⟨rfl, hn2, h2⟩ | ⟨⟨T, x, rfl⟩, hp, hno⟩⟩
  · conv => cbv
    refine br_f (by rw [bnot_ hA]; rfl) ?_
    conv => cbv
    refine (copied hP R2 a2 n2 c2 _ h2 (by omega)).callP rfl ?_
    rintro R3 _ hR3 ⟨a3, n3, c3, rfl, hn3, h3⟩
    conv => cbv
    intro ρ R'' hle _ _
    exact ⟨ys, fb, nb, hce, a3, n3, c3, _, rfl, .inl ⟨rfl, by omega, h3.le hle⟩⟩
  · conv => cbv
    refine br_t (by rw [bnot_ hA]; rfl) ?_
    conv => cbv
    intro ρ R'' hle _ _
    exact ⟨ys, fb, nb, hce, none, 0, 0, _, rfl, .inr ⟨hp, hno⟩⟩

theorem up_of {zs : List Int} (h : ∀ x ∈ zs, (Lit.int .u8 x).wf = true) : ∃ xs : List Nat, zs = up xs ∧ ∀ x ∈ xs, x < 256 := by
  refine ⟨zs.map Int.toNat, ?_, fun x hx => ?_⟩
  · unfold up
    rw [List.map_map]
    conv => lhs; rw [← List.map_id zs]
    apply List.map_congr_left
    intro x hx
    have := wf_u8 (h x hx)
    simp
    omega
  · obtain ⟨y, hy, rfl⟩ := List.mem_map.1 hx
    have := wf_u8 (h y hy)
    omega

set_option maxRecDepth 100000 in
theorem law (R : RO) (a : Option Addr) (n cap : Nat) (zs : List Int) (h : RI R .u8 a n zs) (hn : n ≤ 9223372036854775807) : RetP Try.prog 7 [.slice a n cap] R fun _ v => v = .bool true := by
  obtain ⟨xs, rfl, hx⟩ := up_of h.wf
  refine retP_vc (fz := []) Try.func7 rfl (by decide) rfl ok7 ?_
  intro P bin cmp cnv neg com bnot beq ofN toN at_ sub_ scmp cat sget ssz ssub elem fld_ hP hA
  conv => cbv
  have o := ofN_ hA n
  by_cases h1 : n > 2147483647
  · refine br_t (by rw [o, cmp_gtr hA]; simp; omega) ?_
    conv => cbv
    intro ρ R'' _ _ _
    rfl
  refine br_f (by rw [o, cmp_gtr hA]; simp; omega) ?_
  conv => cbv
  by_cases h2 : n > 400
  · refine br_t (by rw [o, cmp_gtr hA]; simp; omega) ?_
    conv => cbv
    intro ρ R'' _ _ _
    rfl
  refine br_f (by rw [o, cmp_gtr hA]; simp; omega) ?_
  conv => cbv
  refine (regroup hP R a n cap 8 5 true xs h (by decide) (by decide) (by decide) (by decide) hx (.inr (by decide)) (by omega) 8 5 rfl rfl).callP rfl ?_
  rintro R1 _ hR1 ⟨ys, fb, nb, hce, a1, n1, c1, kd, rfl, ⟨rfl, hn1, h3⟩ | ⟨hp, _⟩⟩
  case inr => cases hp
  conv => cbv
  obtain ⟨ys', hy⟩ : ∃ ys', ys' = if fb = 0 then ys else ys ++ [nb * 2 ^ (5 - fb)] := ⟨_, rfl⟩
  have h4 : RI R1 .u8 a1 n1 (up ys') := by
    rw [hy]
    by_cases h0 : fb = 0
    · rw [if_pos h0]; rw [if_neg (by simp [h0])] at h3; exact h3
    · rw [if_neg h0]; rw [if_pos (by simp [h0])] at h3; exact h3
  have hy32 : ∀ y ∈ ys', y < 2 ^ 5 := by
    rw [hy]
    by_cases h0 : fb = 0
    · rw [if_pos h0]; exact hce.hy
    · rw [if_neg h0]
      intro y hyy
      rcases List.mem_append.1 hyy with hyy | hyy
      · exact hce.hy y hyy
      · simp at hyy
        have h5 : (2 : Nat) ^ 5 = 2 ^ fb * 2 ^ (5 - fb) := by rw [← Nat.pow_add]; congr 1; have := hce.ft; omega
        rw [hyy, h5]
        exact Nat.mul_lt_mul_of_pos_right hce.hn (Nat.pow_pos (by decide))
  refine (regroup hP R1 a1 n1 c1 5 8 false ys' h4 (by decide) (by decide) (by decide) (by decide) hy32 (.inl (by decide)) (by omega) 5 8 rfl rfl).callP rfl ?_
  rintro R2 _ hR2 ⟨zs, fb', nb', hce', a2, n2, c2, kd, rfl, hres⟩
  obtain ⟨e1, e2, e3, _⟩ := back hx hce hy hce'
  rcases hres with ⟨rfl, hn2, h5⟩ | ⟨_, hno⟩
  case inr => exact absurd ⟨e2, e3⟩ hno
  conv => cbv
  have q : cmp .eql 0 0 = true := by rw [cmp_eql hA]; rfl
  simp only [q]
  conv => cbv
  simp only [q]
  conv => cbv
  rw [if_neg (by simp), e1] at h5
  refine (same hP R2 a2 a n2 n c2 cap (up xs) (up xs) h5 (h.le (RO.le_trans hR1 hR2)) (by omega) (by omega)).callP rfl ?_
  rintro R3 _ hR3 ⟨r, rfl, hr⟩
  have : r = true := hr.2 rfl
  subst this
  conv => cbv
  intro ρ R'' _ _ _
  rfl
end Go.Proofs.Ytclkimgpdnldnaa.Adr
