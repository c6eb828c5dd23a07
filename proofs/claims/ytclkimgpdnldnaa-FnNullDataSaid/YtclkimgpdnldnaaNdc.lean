/- A script that returns at once and pushes data: the package, the law. -/
import Derived.Test.YtclkimgpdnldnaaNdb
set_option linter.unusedSimpArgs false
set_option linter.unusedVariables false
namespace Go.Proofs.Ytclkimgpdnldnaa.Nd
open Go Go.Se Go.Proofs Go.Proofs.Ytclkimgpdnldnaa.Tynd




set_option maxRecDepth 100000 in
theorem canonical {P : Program} (hP : P = Try.prog) (R : RO) (a : Option Addr) (n c : Nat) (xs : List Int) (h : RI R .u8 a n xs) (hn : n ≤ 80) : RetP P 124 [.slice a n c] R fun _ v => ∃ r : Int, v = .int .i64 r ∧ 0 ≤ r ∧ r ≤ 90 := by
  subst hP
  have hl := h.len
  refine retP_vc (fz := []) Try.func124 rfl (by decide) rfl ok124 ?_
  intro P bin cmp cnv neg com bnot beq ofN toN at_ sub_ scmp cat sget ssz ssub elem fld_ hP hA
  conv => cbv
  have o := ofN_ hA n
  by_cases n0 : n = 0
  · refine br_t (by rw [o, cmp_eql hA]; simp; omega) ?_
    conv => cbv
    intro ρ R'' _ _ _
    refine ⟨_, rfl, ?_⟩
    decide
  refine br_f (by rw [o, cmp_eql hA]; simp; omega) ?_
  conv => cbv
  have rest : 0 ≤ bin .add .i64 1 (ofN n) ∧ bin .add .i64 1 (ofN n) ≤ 90 ∧ 0 ≤ bin .add .i64 2 (ofN n) ∧ bin .add .i64 2 (ofN n) ≤ 90 := by rw [o, add_i64 hA (by omega), add_i64 hA (by omega)]; omega
  by_cases n1 : n = 1
  · have c1 : cmp .eql (ofN n) 1 = true := by rw [o, cmp_eql hA]; simp; omega
    simp only [c1]
    conv => cbv
    obtain ⟨b, hb⟩ : ∃ b, b = xs.getD 0 0 := ⟨_, rfl⟩
    refine ix_u8 hA h 0 rfl (by omega) ?_
    refine ld_u8 hA h (by omega) (by omega) ?_
    intro b9 hb9 b0 b1
    have hbb : b = b9 := hb.trans hb9.symm
    subst hbb
    conv => cbv
    refine br_of (fun _ => ?_) (fun _ => ?_)
    · conv => cbv
      intro ρ R'' _ _ _
      refine ⟨_, rfl, ?_⟩
      decide
    conv => cbv
    simp only [c1]
    conv => cbv
    refine ix_u8 hA h 0 rfl (by omega) ?_
    refine ld_u8 hA h (by omega) (by omega) ?_
    intro b9 hb9 b0 b1
    have hbb : b = b9 := hb.trans hb9.symm
    subst hbb
    conv => cbv
    refine br_of (fun _ => ?_) (fun _ => ?_)
    · conv => cbv
      intro ρ R'' _ _ _
      refine ⟨_, rfl, ?_⟩
      decide
    conv => cbv
    refine br_t (by rw [o, cmp_lss hA]; simp; omega) ?_
    conv => cbv
    intro ρ R'' _ _ _
    refine ⟨_, rfl, ?_⟩
    exact ⟨rest.1, rest.2.1⟩
  have c1 : cmp .eql (ofN n) 1 = false := by rw [o, cmp_eql hA]; simp; omega
  simp only [c1]
  conv => cbv
  simp only [c1]
  conv => cbv
  refine br_of (fun _ => ?_) (fun _ => ?_)
  · conv => cbv
    intro ρ R'' _ _ _
    refine ⟨_, rfl, ?_⟩
    exact ⟨rest.1, rest.2.1⟩
  conv => cbv
  refine br_t (by rw [o, cmp_leq hA]; simp; omega) ?_
  conv => cbv
  intro ρ R'' _ _ _
  refine ⟨_, rfl, ?_⟩
  exact rest.2.2

theorem push_wf {xs : List Int} (h : ∀ x ∈ xs, (Lit.int .u8 x).wf = true) (hl : xs.length ≤ 80) : ∀ x ∈ (106 :: push xs), (Lit.int .u8 x).wf = true := by
  have hr := lst_range h
  have w : ∀ y : Int, 0 ≤ y → y ≤ 255 → (Lit.int .u8 y).wf = true := fun y h1 h2 => by
    simp [Lit.wf, IntKind.min, IntKind.max, IntKind.bits, IntKind.signed]
    omega
  intro x hx
  rcases List.mem_cons.1 hx with rfl | hx
  · exact w _ (by decide) (by decide)
  unfold push at hx
  split at hx
  · simp at hx
    subst hx
    exact w _ (by omega) (by omega)
  split at hx
  · simp at hx
    rcases hx with rfl | rfl | hx
    · exact w _ (by omega) (by omega)
    · exact w _ (by omega) (by omega)
    · exact h x hx
  · simp at hx
    rcases hx with rfl | hx
    · exact w _ (by omega) (by omega)
    · exact h x hx

theorem push_len {xs : List Int} : (push xs).length ≤ xs.length + 2 := by
  unfold push
  split
  · simp
  split
  · simp
  · simp





theorem mix {P : Program} (hP : P = Try.prog) : P.follows .mixedOrders = true := by subst hP; rfl

set_option maxRecDepth 100000 in
set_option maxHeartbeats 1000000 in
theorem nullScript {P : Program} (hP : P = Try.prog) (R : RO) (a : Option Addr) (n c : Nat) (xs : List Int) (h : RI R .u8 a n xs) (hn : n ≤ 80) (hne : xs ≠ [0]) :
    RetP P 74 [.slice a n c] R fun R' v => ∃ a' n' c', v = .tuple #[.slice a' n' c', .nilIface] ∧ RI R' .u8 a' n' (106 :: push xs) ∧ n' ≤ 100 := by
  subst hP
  have hl := h.len
  have hpw := push_wf h.wf (by omega)
  refine retP_vc (fz := []) Try.func74 rfl (by decide) rfl ok74 ?_
  intro P bin cmp cnv neg com bnot beq ofN toN at_ sub_ scmp cat sget ssz ssub elem fld_ hP hA
  conv => cbv
  have o := ofN_ hA n
  refine br_f (by rw [o, cmp_gtr hA]; simp; omega) ?_
  conv => cbv
  refine callP_in (fz := []) hP hA Try.func102 rfl (by decide) rfl ok102 (by simp [labL, lab]) ?_
  conv => cbv
  refine callP_in (fz := []) hP hA Try.func123 rfl (by decide) rfl ok123 (by simp [labL, lab]) ?_
  conv => cbv
  refine ⟨Unit, fun _ => ⟨[(9, .v (.int .i64 0)), (8, .v (.int .i64 (ofN 0))), (3, .p 0 0)], R, [(0, ⟨198, [.v (.int .i64 500)]⟩)], 1, []⟩, fun k _ => k = 0, ⟨0, (), ⟨⟨rfl, rfl, rfl, trivial⟩, rfl, ⟨rfl, trivial⟩, rfl, .refl _⟩, rfl⟩, ?_⟩
  rintro k _ hk
  conv => cbv
  refine br_f (by rw [ofN_ hA, cmp_lss hA]; rfl) ?_
  conv => cbv
  refine ⟨by decide, by decide, by decide, by decide, ?_⟩
  intro a0 n0 c0 z0 hn0 hc0 hz0
  have hn0 : n0 = 0 := by omega
  rw [hn0] at hz0
  simp only [List.replicate_zero, List.flatten_nil] at hz0
  conv => cbv
  refine callP_in (fz := []) hP hA Try.func103 rfl (by decide) rfl ok103 (by simp [labL, lab]) ?_
  conv => cbv
  refine br_f (by rw [bnot_ hA]; rfl) ?_
  conv => cbv
  refine br_f (by rw [ofN_ hA, add_i64 hA (by omega), cmp_gtr hA]; simp; omega) ?_
  conv => cbv
  refine ⟨n0, z0, _, _, _, _, _, .row 0 ⟨(some a0), n0, c0, 5, 1, z0⟩ rfl rfl rfl, .refl _, .own _ _ _ _ _ _ rfl rfl rfl (by simp [Value.oneCell']), by omega, by omega, ?_⟩
  intro a1 n1 cc1 z1 hn1 hz1 hs1
  conv => cbv
  have hn1 : n1 = 1 := by omega
  have hz1 : z1 = ints .u8 [106] := by rw [hz1, hz0]; rfl
  have o1 := ofN_ hA n1
  refine callP_in (fz := []) hP hA Try.func104 rfl (by decide) rfl ok104 (by simp [labL, lab]) ?_
  conv => cbv
  refine br_f (by rw [bnot_ hA]; rfl) ?_
  conv => cbv
  refine (canonical hP R a n c xs h hn).callQ rfl ?_
  rintro _ ⟨r, rfl, hr0, hr1⟩
  conv => cbv
  refine br_f (by rw [o1, add_i64 hA (by omega), cmp_gtr hA]; simp; omega) ?_
  conv => cbv
  refine br_f (by rw [o, cmp_gtr hA]; simp; omega) ?_
  conv => cbv
  refine callP_in (fz := []) hP hA Try.func125 rfl (by decide) rfl ok125 (by simp [labL, lab]) ?_
  conv => cbv
  by_cases n0' : n = 0
  · have d1 : cmp .eql (ofN n) 0 = true := by rw [o, cmp_eql hA]; simp; omega
    have hxs : xs = [] := List.eq_nil_of_length_eq_zero (by omega)
    have hpu : push xs = [0] := by rw [hxs]; rfl
    simp only [d1]
    conv => cbv
    refine ⟨n1, z1, _, _, _, _, _, .row 0 ⟨a1, n1, cc1, 5, 1, z1⟩ rfl rfl rfl, .refl _, .own _ _ _ _ _ _ rfl rfl rfl (by simp [Value.oneCell']), by omega, by omega, ?_⟩
    intro a2 n2 cc2 z2 hn2 hz2 hs2
    conv => cbv
    refine callP_in (fz := []) hP hA Try.func105 rfl (by decide) rfl ok105 (by simp [labL, lab]) ?_
    conv => cbv
    refine ⟨[0, 1, 2, 3, 4, 5, 6, 7, 8, 9], [], mix hP, by kernel_rfl, ?_⟩
    conv => cbv
    intro ρ R'' hle _ hpr
    refine ⟨_, _, _, rfl, (hpr _ (List.mem_cons_self ..)).ri (xs := 106 :: push xs) ?_ hs2 rfl ?_ hpw, ?_⟩
    · show n2 = _
      rw [List.length_cons, hpu]
      simp
      omega
    · show z2 = _
      rw [hz2, hz1, hpu]; rfl
    · show n2 ≤ 100
      omega
  have d1 : cmp .eql (ofN n) 0 = false := by rw [o, cmp_eql hA]; simp; omega
  simp only [d1]
  conv => cbv
  by_cases n1' : n = 1
  · obtain ⟨b, hb⟩ : ∃ b, b = xs.getD 0 0 := ⟨_, rfl⟩
    have hb8 := h.u8 0
    rw [← hb] at hb8
    have hxs : xs = [b] := by
      match xs, (by omega : xs.length = 1) with
      | [x], _ => rw [hb]; rfl
    have hb0 : b ≠ 0 := fun he => hne (by rw [hxs, he])
    have d2 : cmp .eql (ofN n) 1 = true := by rw [o, cmp_eql hA]; simp; omega
    have d3 : cmp .eql b 0 = false := by rw [cmp_eql hA]; simp; omega
    simp only [d2]
    conv => cbv
    refine ix_u8 hA h 0 rfl (by omega) ?_
    refine ld_u8 hA h (by omega) (by omega) ?_
    intro b9 hb9 b0 b1
    have hbb : b = b9 := hb.trans hb9.symm
    subst hbb
    conv => cbv
    simp only [d3]
    conv => cbv
    simp only [d2]
    conv => cbv
    refine ix_u8 hA h 0 rfl (by omega) ?_
    refine ld_u8 hA h (by omega) (by omega) ?_
    intro b9 hb9 b0 b1
    have hbb : b = b9 := hb.trans hb9.symm
    subst hbb
    conv => cbv
    by_cases h16 : b ≤ 16
    · refine br_t (by rw [cmp_leq hA]; simp; omega) ?_
      conv => cbv
      have hls : lst xs = 80 + b := by rw [lst, if_neg (by omega), if_pos ⟨by omega, by rw [← hb]; omega, by rw [← hb]; omega⟩, hb]
      have hpu : push xs = [80 + b] := by rw [push, if_pos (.inr (by omega)), hls]
      refine ⟨[0, 1, 2, 3, 4, 5, 6, 7, 8, 9, 10, 11, 12, 13], [10, 13], mix hP, by kernel_rfl, ?_⟩
      conv => cbv
      refine ix_u8 hA h 0 rfl (by omega) ?_
      refine ld_u8 hA h (by omega) (by omega) ?_
      intro b9 hb9 b0 b1
      have hbb : b = b9 := hb.trans hb9.symm
      subst hbb
      conv => cbv
      refine ⟨⟨⟨rfl, rfl, rfl, trivial⟩, .refl _⟩, ?_⟩
      refine ⟨n1, z1, _, _, _, _, _, .row 0 ⟨a1, n1, cc1, 5, 1, z1⟩ rfl rfl rfl, .refl _, .own _ _ _ _ _ _ rfl rfl rfl (by simp [Value.oneCell']), by omega, by omega, ?_⟩
      intro a2 n2 cc2 z2 hn2 hz2 hs2
      conv => cbv
      refine callP_in (fz := []) hP hA Try.func105 rfl (by decide) rfl ok105 (by simp [labL, lab]) ?_
      conv => cbv
      refine ⟨[0, 1, 2, 3, 4, 5, 6, 7, 8, 9], [], mix hP, by kernel_rfl, ?_⟩
      conv => cbv
      intro ρ R'' hle _ hpr
      refine ⟨_, _, _, rfl, (hpr _ (List.mem_cons_self ..)).ri (xs := 106 :: push xs) ?_ hs2 rfl ?_ hpw, ?_⟩
      · show n2 = _
        rw [List.length_cons, hpu]
        simp
        omega
      · show z2 = _
        rw [hz2, hz1, hpu, add_u8 hA (by omega)]; rfl
      · show n2 ≤ 100
        omega
    refine br_f (by rw [cmp_leq hA]; simp; omega) ?_
    conv => cbv
    simp only [d2]
    conv => cbv
    refine ix_u8 hA h 0 rfl (by omega) ?_
    refine ld_u8 hA h (by omega) (by omega) ?_
    intro b9 hb9 b0 b1
    have hbb : b = b9 := hb.trans hb9.symm
    subst hbb
    conv => cbv
    by_cases h129 : b = 129
    · refine br_t (by rw [cmp_eql hA]; simp; omega) ?_
      conv => cbv
      have hls : lst xs = 79 := by rw [lst, if_neg (by omega), if_neg (by rw [← hb]; omega), if_pos ⟨by omega, by rw [← hb]; omega⟩]
      have hpu : push xs = [79] := by rw [push, if_pos (.inr (by omega)), hls]
      refine ⟨n1, z1, _, _, _, _, _, .row 0 ⟨a1, n1, cc1, 5, 1, z1⟩ rfl rfl rfl, .refl _, .own _ _ _ _ _ _ rfl rfl rfl (by simp [Value.oneCell']), by omega, by omega, ?_⟩
      intro a2 n2 cc2 z2 hn2 hz2 hs2
      conv => cbv
      refine callP_in (fz := []) hP hA Try.func105 rfl (by decide) rfl ok105 (by simp [labL, lab]) ?_
      conv => cbv
      refine ⟨[0, 1, 2, 3, 4, 5, 6, 7, 8, 9], [], mix hP, by kernel_rfl, ?_⟩
      conv => cbv
      intro ρ R'' hle _ hpr
      refine ⟨_, _, _, rfl, (hpr _ (List.mem_cons_self ..)).ri (xs := 106 :: push xs) ?_ hs2 rfl ?_ hpw, ?_⟩
      · show n2 = _
        rw [List.length_cons, hpu]
        simp
        omega
      · show z2 = _
        rw [hz2, hz1, hpu]; rfl
      · show n2 ≤ 100
        omega
    refine br_f (by rw [cmp_eql hA]; simp; omega) ?_
    conv => cbv
    have hls : lst xs = n := by rw [lst, if_neg (by omega), if_neg (by rw [← hb]; omega), if_neg (by rw [← hb]; omega), if_pos (by omega), hl]
    have hpu : push xs = [(n : Int)] ++ xs := by rw [push, if_neg (by omega), if_neg (by omega), hls]
    refine br_t (by rw [o, cmp_lss hA]; simp; omega) ?_
    conv => cbv
    refine ⟨n1, z1, _, _, _, _, _, .row 0 ⟨a1, n1, cc1, 5, 1, z1⟩ rfl rfl rfl, .refl _, .own _ _ _ _ _ _ rfl rfl rfl (by simp [Value.oneCell']), by omega, by omega, ?_⟩
    intro a2 n2 cc2 z2 hn2 hz2 hs2
    conv => cbv
    refine ⟨n2, z2, _, _, _, _, _, .row 0 ⟨a2, n2, cc2, 5, 1, z2⟩ rfl rfl rfl, .refl _, h.src, by omega, by omega, ?_⟩
    intro a3 n3 cc3 z3 hn3 hz3 hs3
    conv => cbv
    refine callP_in (fz := []) hP hA Try.func105 rfl (by decide) rfl ok105 (by simp [labL, lab]) ?_
    conv => cbv
    refine ⟨[0, 1, 2, 3, 4, 5, 6, 7, 8, 9], [], mix hP, by kernel_rfl, ?_⟩
    conv => cbv
    intro ρ R'' hle _ hpr
    refine ⟨_, _, _, rfl, (hpr _ (List.mem_cons_self ..)).ri (xs := 106 :: push xs) ?_ hs3 rfl ?_ hpw, ?_⟩
    · show n3 = _
      rw [List.length_cons, hpu]
      simp
      omega
    · show z3 = _
      rw [hz3, hz2, hz1, hpu, o, add_i64 hA (by omega), cnv_u8 hA (by omega)]
      simp [ints]
    · show n3 ≤ 100
      omega
  have d2 : cmp .eql (ofN n) 1 = false := by rw [o, cmp_eql hA]; simp; omega
  simp only [d2]
  conv => cbv
  simp only [d2]
  conv => cbv
  simp only [d2]
  conv => cbv
  by_cases h76 : n < 76
  · have hls : lst xs = n := by rw [lst, if_neg (by omega), if_neg (by omega), if_neg (by omega), if_pos (by omega), hl]
    have hpu : push xs = [(n : Int)] ++ xs := by rw [push, if_neg (by omega), if_neg (by omega), hls]
    refine br_t (by rw [o, cmp_lss hA]; simp; omega) ?_
    conv => cbv
    refine ⟨n1, z1, _, _, _, _, _, .row 0 ⟨a1, n1, cc1, 5, 1, z1⟩ rfl rfl rfl, .refl _, .own _ _ _ _ _ _ rfl rfl rfl (by simp [Value.oneCell']), by omega, by omega, ?_⟩
    intro a2 n2 cc2 z2 hn2 hz2 hs2
    conv => cbv
    refine ⟨n2, z2, _, _, _, _, _, .row 0 ⟨a2, n2, cc2, 5, 1, z2⟩ rfl rfl rfl, .refl _, h.src, by omega, by omega, ?_⟩
    intro a3 n3 cc3 z3 hn3 hz3 hs3
    conv => cbv
    refine callP_in (fz := []) hP hA Try.func105 rfl (by decide) rfl ok105 (by simp [labL, lab]) ?_
    conv => cbv
    refine ⟨[0, 1, 2, 3, 4, 5, 6, 7, 8, 9], [], mix hP, by kernel_rfl, ?_⟩
    conv => cbv
    intro ρ R'' hle _ hpr
    refine ⟨_, _, _, rfl, (hpr _ (List.mem_cons_self ..)).ri (xs := 106 :: push xs) ?_ hs3 rfl ?_ hpw, ?_⟩
    · show n3 = _
      rw [List.length_cons, hpu]
      simp
      omega
    · show z3 = _
      rw [hz3, hz2, hz1, hpu, o, add_i64 hA (by omega), cnv_u8 hA (by omega)]
      simp [ints]
    · show n3 ≤ 100
      omega
  have hls : lst xs = 76 := by rw [lst, if_neg (by omega), if_neg (by omega), if_neg (by omega), if_neg (by omega)]
  have hpu : push xs = [76, (n : Int)] ++ xs := by rw [push, if_neg (by omega), if_pos (by omega), hls, hl]
  refine br_f (by rw [o, cmp_lss hA]; simp; omega) ?_
  conv => cbv
  refine br_t (by rw [o, cmp_leq hA]; simp; omega) ?_
  conv => cbv
  refine ⟨n1, z1, _, _, _, _, _, .row 0 ⟨a1, n1, cc1, 5, 1, z1⟩ rfl rfl rfl, .refl _, .own _ _ _ _ _ _ rfl rfl rfl (by simp [Value.oneCell']), by omega, by omega, ?_⟩
  intro a2 n2 cc2 z2 hn2 hz2 hs2
  conv => cbv
  refine ⟨n2, z2, _, _, _, _, _, .row 0 ⟨a2, n2, cc2, 5, 1, z2⟩ rfl rfl rfl, .refl _, h.src, by omega, by omega, ?_⟩
  intro a3 n3 cc3 z3 hn3 hz3 hs3
  conv => cbv
  refine callP_in (fz := []) hP hA Try.func105 rfl (by decide) rfl ok105 (by simp [labL, lab]) ?_
  conv => cbv
  refine ⟨[0, 1, 2, 3, 4, 5, 6, 7, 8, 9], [], mix hP, by kernel_rfl, ?_⟩
  conv => cbv
  intro ρ R'' hle _ hpr
  refine ⟨_, _, _, rfl, (hpr _ (List.mem_cons_self ..)).ri (xs := 106 :: push xs) ?_ hs3 rfl ?_ hpw, ?_⟩
  · show n3 = _
    rw [List.length_cons, hpu]
    simp
    omega
  · show z3 = _
    rw [hz3, hz2, hz1, hpu, o, cnv_u8 hA (by omega)]
    simp [ints]
  · show n3 ≤ 100
    omega
end Go.Proofs.Ytclkimgpdnldnaa.Nd
