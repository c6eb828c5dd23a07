/- Addresses of base 58: hashes, and what compares them. -/
/- Append to an empty block of the call's own, which stays. -/
/- The types that some functions name, as the evaluator wants them. Printed by a program of my own (seatgen.py). -/
/- Addresses of base 58: the reference. -/
/- The types that some functions name, as the evaluator wants them. Printed by a program of my own (seatgen.py). -/
/- Addresses of base 58: the package. -/
/- The types that some functions name, as the evaluator wants them. Printed by a program of my own (seatgen.py). -/
import Derived.Test.YtepfbdfbfimefaaDoorMTysb
import Derived.Test.YtepfbdfbfimefaaDoorMTyra
import Derived.OpenShut
import Derived.Test.YtepfbdfbfimefaaDoorMTyei
import Derived.Test.YtepfbdfbfimefaaDoorSl
import Derived.Test.YtepfbdfbfimefaaDoorProg
import Derived.KernelRfl
import Derived.LaidEql
section
set_option linter.unusedSimpArgs false
set_option linter.unusedVariables false
namespace Go.Proofs.YtepfbdfbfimefaaDoor.Rd
open Go Go.Se Go.Proofs Go.Proofs.YtepfbdfbfimefaaDoor.Co Go.Proofs.YtepfbdfbfimefaaDoor.Ht Go.Proofs.YtepfbdfbfimefaaDoor.Sha Go.Proofs.YtepfbdfbfimefaaDoor.Bf Go.Proofs.YtepfbdfbfimefaaDoor.Tyra

theorem sha_wf (K xs : List Int) : ∀ x ∈ sha K xs, (Lit.int .u8 x).wf = true := by
  intro x hx
  have h : ∀ n : Int, ∀ x ∈ be4 n, (Lit.int .u8 x).wf = true := by
    intro n x hx
    simp only [be4, List.mem_cons, List.not_mem_nil, or_false] at hx
    rcases hx with rfl | rfl | rfl | rfl <;> exact Go.wf_wrap .u8 _
  simp only [sha, S8.bytes, List.mem_append] at hx
  rcases hx with ((((((hx | hx) | hx) | hx) | hx) | hx) | hx) | hx <;> exact h _ x hx

set_option maxRecDepth 100000 in
theorem copiedL {P : Program} (hP : P = Tryd.prog) (R : RO) (a : Option Addr) (n cap : Nat) (xs : List Int) (h : RI R .u8 a n xs) (hn : n ≤ 1000000000000) :
    RetP P 15 [.slice a n cap] R fun R' v => ∃ a' n' c', v = .slice a' n' c' ∧ n' = n ∧ RI R' .u8 a' n' xs ∧ n' ≤ c' := by
  subst hP
  refine retP_vc (fz := []) Tryd.func15 rfl (by decide) rfl ok15 ?_
  intro P bin cmp cnv neg com bnot beq ofN toN at_ sub_ scmp cat sget ssz ssub elem fld_ hP hA
  conv => cbv
  refine ⟨0, [], _, _, _, n, ints .u8 xs, .own 0 0 _ [] rfl rfl rfl rfl (by decide), .refl _, h.src, by omega, by omega, ?_⟩
  intro a' n' c' zs hn' hz hs
  conv => cbv
  intro ρ R'' hle _ hpr
  exact ⟨a', n', c', rfl, by omega, (hpr _ (List.mem_cons_self ..)).ri (by show n' = _; rw [← h.len]; omega) hs rfl hz h.wf, (hpr _ (List.mem_cons_self ..)).cap_ (by show (1 : Nat) ≠ 4096; decide) hs⟩

set_option maxRecDepth 100000 in
theorem sameL {P : Program} (hP : P = Tryd.prog) (R : RO) (a b : Option Addr) (n m cap c2 : Nat) (xs ys : List Int) (h : RI R .u8 a n xs) (h2 : RI R .u8 b m ys) (hn : n ≤ 1000000000000) (hm : m ≤ 1000000000000) :
    RetP P 7 [.slice a n cap, .slice b m c2] R fun _ v => ∃ r, v = .bool r ∧ (r = true ↔ xs = ys) := by
  subst hP
  have hl := h.len
  have hl2 := h2.len
  refine retP_vc (fz := []) Tryd.func7 rfl (by decide) rfl ok7 ?_
  intro P bin cmp cnv neg com bnot beq ofN toN at_ sub_ scmp cat sget ssz ssub elem fld_ hP hA
  conv => cbv
  have o := ofN_ hA n
  have o2 := ofN_ hA m
  by_cases h0 : n = m
  case neg =>
    refine br_t (by rw [o, o2, cmp_neq hA]; simp; omega) ?_
    conv => cbv
    intro ρ R'' _ _ _
    exact ⟨_, rfl, by simp; intro hx; rw [hx] at hl; omega⟩
  refine br_f (by rw [o, o2, cmp_neq hA]; simp; omega) ?_
  conv => cbv
  refine ⟨Int, fun x => ⟨[(5, .v (.int .i64 x)), (0, .v (.slice a n cap)), (1, .v (.slice b m c2))], R, [], 0, []⟩,
    fun k x => ∃ i : Nat, x = i ∧ i ≤ n ∧ k = n - i ∧ xs.take i = ys.take i, ⟨n, 0, ⟨⟨rfl, rfl, rfl, trivial⟩, rfl, trivial, rfl, .refl _⟩, 0, rfl, by omega, rfl, rfl⟩, ?_⟩
  rintro k x ⟨i, hx, hi, hk, ht⟩
  conv => cbv
  by_cases hlt : i < n
  · refine br_t (by rw [o, cmp_lss hA]; simp; omega) ?_
    conv => cbv
    refine ⟨[0, 1, 2, 3, 4, 5, 6, 7, 8], [], Sha.mix hP, by kernel_rfl, ?_⟩
    conv => cbv
    refine ix_u8 hA h i hx (by omega) ?_
    refine ld_u8 hA h (by omega) (by omega) ?_
    intro c hc c0 c1
    conv => cbv
    refine ix_u8 hA h2 i hx (by omega) ?_
    refine ld_u8 hA h2 (by omega) (by omega) ?_
    intro d hd d0 d1
    conv => cbv
    have hi1 : i < xs.length := by omega
    have hi2 : i < ys.length := by omega
    rw [hx, Int.toNat_natCast, List.getD_eq_getElem?_getD, List.getElem?_eq_getElem hi1] at hc
    rw [hx, Int.toNat_natCast, List.getD_eq_getElem?_getD, List.getElem?_eq_getElem hi2] at hd
    simp only [Option.getD_some] at hc hd
    by_cases he : c = d
    · refine br_f (by rw [cmp_neq hA, he]; simp) ?_
      conv => cbv
      refine ⟨n - (i + 1), x + 1, by omega, ⟨⟨?_, rfl, rfl, trivial⟩, rfl, trivial, rfl, .refl _⟩, i + 1, by show x + 1 = ((i + 1 : Nat) : Int); omega, by omega, rfl, ?_⟩
      · rw [add_i64 hA (by omega)]; rfl
      · rw [List.take_add_one, List.take_add_one, ht, List.getElem?_eq_getElem hi1, List.getElem?_eq_getElem hi2, ← hc, ← hd, he]
    · refine br_t (by rw [cmp_neq hA]; simpa using he) ?_
      conv => cbv
      intro ρ R'' _ _ _
      refine ⟨_, rfl, by simp; intro hxy; subst hxy; exact he (by rw [hc, hd])⟩
  · refine br_f (by rw [o, cmp_lss hA]; simp; omega) ?_
    conv => cbv
    intro ρ R'' _ _ _
    refine ⟨_, rfl, ?_⟩
    have : i = n := by omega
    subst this
    rw [List.take_of_length_le (by omega), List.take_of_length_le (by omega)] at ht
    simp [ht]

set_option maxRecDepth 100000 in
theorem sameS {P : Program} (hP : P = Tryd.prog) (R : RO) (a b : Option Addr) (n m cap c2 : Nat) (xs ys : List Int) (h : RI R .u8 a n xs) (h2 : RI R .u8 b m ys) (hn : n ≤ 1000000000000) (hm : m ≤ 1000000000000) :
    RetP P 18 [.slice a n cap, .slice b m c2] R fun _ v => ∃ r, v = .bool r ∧ (r = true ↔ xs = ys) := by
  subst hP
  have hl := h.len
  have hl2 := h2.len
  refine retP_vc (fz := []) Tryd.func18 rfl (by decide) rfl ok18 ?_
  intro P bin cmp cnv neg com bnot beq ofN toN at_ sub_ scmp cat sget ssz ssub elem fld_ hP hA
  conv => cbv
  have o := ofN_ hA n
  have o2 := ofN_ hA m
  by_cases h0 : n = m
  case neg =>
    refine br_t (by rw [o, o2, cmp_neq hA]; simp; omega) ?_
    conv => cbv
    intro ρ R'' _ _ _
    exact ⟨_, rfl, by simp; intro hx; rw [hx] at hl; omega⟩
  refine br_f (by rw [o, o2, cmp_neq hA]; simp; omega) ?_
  conv => cbv
  refine ⟨Int, fun x => ⟨[(5, .v (.int .i64 x)), (0, .v (.slice a n cap)), (1, .v (.slice b m c2))], R, [], 0, []⟩,
    fun k x => ∃ i : Nat, x = i ∧ i ≤ n ∧ k = n - i ∧ xs.take i = ys.take i, ⟨n, 0, ⟨⟨rfl, rfl, rfl, trivial⟩, rfl, trivial, rfl, .refl _⟩, 0, rfl, by omega, rfl, rfl⟩, ?_⟩
  rintro k x ⟨i, hx, hi, hk, ht⟩
  conv => cbv
  by_cases hlt : i < n
  · refine br_t (by rw [o, cmp_lss hA]; simp; omega) ?_
    conv => cbv
    refine ⟨[0, 1, 2, 3, 4, 5, 6, 7, 8], [], Sha.mix hP, by kernel_rfl, ?_⟩
    conv => cbv
    refine ix_u8 hA h i hx (by omega) ?_
    refine ld_u8 hA h (by omega) (by omega) ?_
    intro c hc c0 c1
    conv => cbv
    refine ix_u8 hA h2 i hx (by omega) ?_
    refine ld_u8 hA h2 (by omega) (by omega) ?_
    intro d hd d0 d1
    conv => cbv
    have hi1 : i < xs.length := by omega
    have hi2 : i < ys.length := by omega
    rw [hx, Int.toNat_natCast, List.getD_eq_getElem?_getD, List.getElem?_eq_getElem hi1] at hc
    rw [hx, Int.toNat_natCast, List.getD_eq_getElem?_getD, List.getElem?_eq_getElem hi2] at hd
    simp only [Option.getD_some] at hc hd
    by_cases he : c = d
    · refine br_f (by rw [cmp_neq hA, he]; simp) ?_
      conv => cbv
      refine ⟨n - (i + 1), x + 1, by omega, ⟨⟨?_, rfl, rfl, trivial⟩, rfl, trivial, rfl, .refl _⟩, i + 1, by show x + 1 = ((i + 1 : Nat) : Int); omega, by omega, rfl, ?_⟩
      · rw [add_i64 hA (by omega)]; rfl
      · rw [List.take_add_one, List.take_add_one, ht, List.getElem?_eq_getElem hi1, List.getElem?_eq_getElem hi2, ← hc, ← hd, he]
    · refine br_t (by rw [cmp_neq hA]; simpa using he) ?_
      conv => cbv
      intro ρ R'' _ _ _
      refine ⟨_, rfl, by simp; intro hxy; subst hxy; exact he (by rw [hc, hd])⟩
  · refine br_f (by rw [o, cmp_lss hA]; simp; omega) ?_
    conv => cbv
    intro ρ R'' _ _ _
    refine ⟨_, rfl, ?_⟩
    have : i = n := by omega
    subst this
    rw [List.take_of_length_le (by omega), List.take_of_length_le (by omega)] at ht
    simp [ht]



set_option maxRecDepth 100000 in
set_option maxHeartbeats 4000000 in
theorem hash2P {P : Program} (hP : P = Tryd.prog) (R : RO) (K : List Int) (hK : RI R .u32 (some ⟨3, 0, none⟩) 64 K) (a : Option Addr) (n c : Nat) (xs : List Int) (h : RI R .u8 a n xs) (hc : n ≤ c) (hn : n ≤ 1099511627000) :
    RetP P 10 [.slice a n c] R fun _ r => ∃ w0 w1 w2 w3 w4 w5 w6 w7 w8 w9 w10 w11 w12 w13 w14 w15 w16 w17 w18 w19 w20 w21 w22 w23 w24 w25 w26 w27 w28 w29 w30 w31, r = .agg #[.int .u8 w0, .int .u8 w1, .int .u8 w2, .int .u8 w3, .int .u8 w4, .int .u8 w5, .int .u8 w6, .int .u8 w7, .int .u8 w8, .int .u8 w9, .int .u8 w10, .int .u8 w11, .int .u8 w12, .int .u8 w13, .int .u8 w14, .int .u8 w15, .int .u8 w16, .int .u8 w17, .int .u8 w18, .int .u8 w19, .int .u8 w20, .int .u8 w21, .int .u8 w22, .int .u8 w23, .int .u8 w24, .int .u8 w25, .int .u8 w26, .int .u8 w27, .int .u8 w28, .int .u8 w29, .int .u8 w30, .int .u8 w31] ∧ sha K (sha K xs) = [w0, w1, w2, w3, w4, w5, w6, w7, w8, w9, w10, w11, w12, w13, w14, w15, w16, w17, w18, w19, w20, w21, w22, w23, w24, w25, w26, w27, w28, w29, w30, w31] := by
  have hP0 := hP
  subst hP
  refine retP_vc (fz := []) Tryd.func10 rfl (by decide) rfl ok10 ?_
  intro P bin cmp cnv neg com bnot beq ofN toN at_ sub_ scmp cat sget ssz ssub elem fld_ hP hA
  conv => cbv
  refine callP_in (fz := [503]) hP hA Tryd.func19 rfl (by decide) rfl ok19 (by simp [labL, lab]) ?_
  conv => cbv
  refine (sum256P hP R K hK a n c xs h hc hn).callQ rfl ?_
  rintro _ ⟨v0, v1, v2, v3, v4, v5, v6, v7, v8, v9, v10, v11, v12, v13, v14, v15, v16, v17, v18, v19, v20, v21, v22, v23, v24, v25, v26, v27, v28, v29, v30, v31, rfl, hsl⟩
  conv => cbv
  refine ⟨_, rfl, by decide, ?_⟩
  intro A n32 g0 hn32 hg0
  obtain rfl : n32 = 32 := hn32
  conv => cbv
  refine ⟨0, _, A, 0, rfl, rfl, by simp [Addr.add], by show 0 + 32 ≤ g0.length; rw [hg0]; decide, ?_⟩
  intro g1 hg1
  have hg1 : g1 = ints .u8 [v0, v1, v2, v3, v4, v5, v6, v7, v8, v9, v10, v11, v12, v13, v14, v15, v16, v17, v18, v19, v20, v21, v22, v23, v24, v25, v26, v27, v28, v29, v30, v31] := by rw [hg1, hg0]; rfl
  have hw1 := sha_wf K xs
  rw [hsl] at hw1
  conv => cbv
  refine RetP.callLend 0 rfl (fun R' hle hpub => sum256P hP R' K (hK.le hle) (some A) 32 32 [v0, v1, v2, v3, v4, v5, v6, v7, v8, v9, v10, v11, v12, v13, v14, v15, v16, v17, v18, v19, v20, v21, v22, v23, v24, v25, v26, v27, v28, v29, v30, v31] (hpub.ri rfl (fun _ => rfl) rfl hg1 hw1) (by decide) (by decide)) rfl ?_ ⟨_, by rw [hP]; exact Tryd.func34, by decide, rfl⟩
  rintro _ ⟨w0, w1, w2, w3, w4, w5, w6, w7, w8, w9, w10, w11, w12, w13, w14, w15, w16, w17, w18, w19, w20, w21, w22, w23, w24, w25, w26, w27, w28, w29, w30, w31, rfl, hsl2⟩
  rw [← hsl] at hsl2
  conv => cbv
  intro ρ R'' _ _ _
  exact ⟨w0, w1, w2, w3, w4, w5, w6, w7, w8, w9, w10, w11, w12, w13, w14, w15, w16, w17, w18, w19, w20, w21, w22, w23, w24, w25, w26, w27, w28, w29, w30, w31, rfl, hsl2⟩

set_option maxRecDepth 100000 in
set_option maxHeartbeats 4000000 in
theorem checksumP {P : Program} (hP : P = Tryd.prog) (R : RO) (K : List Int) (hK : RI R .u32 (some ⟨3, 0, none⟩) 64 K) (a : Option Addr) (n c : Nat) (xs : List Int) (h : RI R .u8 a n xs) (hc : n ≤ c) (hn : n ≤ 1099511627000) :
    RetP P 35 [.slice a n c] R fun _ r => ∃ w0 w1 w2 w3, r = .agg #[.int .u8 w0, .int .u8 w1, .int .u8 w2, .int .u8 w3] ∧ (sha K (sha K xs)).take 4 = [w0, w1, w2, w3] := by
  subst hP
  refine retP_vc (fz := [503, 504]) Tryd.func35 rfl (by decide) rfl ok35 ?_
  intro P bin cmp cnv neg com bnot beq ofN toN at_ sub_ scmp cat sget ssz ssub elem fld_ hP hA
  conv => cbv
  refine (sum256P hP R K hK a n c xs h hc hn).callQ rfl ?_
  rintro _ ⟨v0, v1, v2, v3, v4, v5, v6, v7, v8, v9, v10, v11, v12, v13, v14, v15, v16, v17, v18, v19, v20, v21, v22, v23, v24, v25, v26, v27, v28, v29, v30, v31, rfl, hsl⟩
  conv => cbv
  refine ⟨_, rfl, by decide, ?_⟩
  intro A n32 g0 hn32 hg0
  obtain rfl : n32 = 32 := hn32
  conv => cbv
  refine ⟨0, _, A, 0, rfl, rfl, by simp [Addr.add], by show 0 + 32 ≤ g0.length; rw [hg0]; decide, ?_⟩
  intro g1 hg1
  have hg1 : g1 = ints .u8 [v0, v1, v2, v3, v4, v5, v6, v7, v8, v9, v10, v11, v12, v13, v14, v15, v16, v17, v18, v19, v20, v21, v22, v23, v24, v25, v26, v27, v28, v29, v30, v31] := by rw [hg1, hg0]; rfl
  have hw1 := sha_wf K xs
  rw [hsl] at hw1
  conv => cbv
  refine RetP.callLend 0 rfl (fun R' hle hpub => sum256P hP R' K (hK.le hle) (some A) 32 32 [v0, v1, v2, v3, v4, v5, v6, v7, v8, v9, v10, v11, v12, v13, v14, v15, v16, v17, v18, v19, v20, v21, v22, v23, v24, v25, v26, v27, v28, v29, v30, v31] (hpub.ri rfl (fun _ => rfl) rfl hg1 hw1) (by decide) (by decide)) rfl ?_ ⟨_, by rw [hP]; exact Tryd.func34, by decide, rfl⟩
  rintro _ ⟨w0, w1, w2, w3, w4, w5, w6, w7, w8, w9, w10, w11, w12, w13, w14, w15, w16, w17, w18, w19, w20, w21, w22, w23, w24, w25, w26, w27, w28, w29, w30, w31, rfl, hsl2⟩
  rw [← hsl] at hsl2
  conv => cbv
  refine ⟨_, rfl, by decide, ?_⟩
  intro B n32 q0 hn32 hq0
  obtain rfl : n32 = 32 := hn32
  conv => cbv
  refine ⟨0, _, B, 0, rfl, rfl, by simp [Addr.add], by show 0 + 32 ≤ q0.length; rw [hq0]; decide, ?_⟩
  intro q1 hq1
  have hq1 : q1 = ints .u8 [w0, w1, w2, w3, w4, w5, w6, w7, w8, w9, w10, w11, w12, w13, w14, w15, w16, w17, w18, w19, w20, w21, w22, w23, w24, w25, w26, w27, w28, w29, w30, w31] := by rw [hq1, hq0]; rfl
  conv => cbv
  refine ⟨[0, 1, 2], [2], Sha.mix hP, by decide +kernel, ?_⟩
  conv => cbv
  refine raw_slice_arr (n := 32) 0 4 rfl rfl (.inl ⟨rfl, rfl⟩) (.inr ⟨_, _, _, rfl, rfl, rfl⟩) (by decide) (by decide) (by rw [hP]; exact ty39) rfl (by rw [hP]; exact ty5) rfl ?_
  intro a1 m1 c1 hm1 hc1 ha1
  obtain rfl : B = a1 := by rw [ha1 (by decide)]; simp [Addr.add]
  obtain rfl : m1 = 4 := hm1
  conv => cbv
  subst hq1
  obtain ⟨j5, d5, hj5, -, -, hj5s, -, -, -⟩ := tyOf_all ty5
  refine gen_copy_own (j := j5) (news := ints .u8 [w0, w1, w2, w3]) (m := 4) hA rfl rfl rfl rfl (by rw [hP]; exact Tryd.underlying22) (by rw [hP]; exact hj5) hj5s (.raw B 4 c1 _ rfl (fun j v hv => ?_) (ints_one _ _)) rfl (by decide) ?_
  · refine .inr ⟨_, List.mem_cons_self .., B, j, rfl, rfl, ?_⟩
    have hj : j < 4 := by
      rcases Nat.lt_or_ge j 4 with h | h
      · exact h
      · rw [List.getElem?_eq_none (by rw [ints_len]; exact h)] at hv; cases hv
    show (ints .u8 [w0, w1, w2, w3, w4, w5, w6, w7, w8, w9, w10, w11, w12, w13, w14, w15, w16, w17, w18, w19, w20, w21, w22, w23, w24, w25, w26, w27, w28, w29, w30, w31])[j]? = _
    rw [← hv]
    match j, hj with
    | 0, _ => rfl
    | 1, _ => rfl
    | 2, _ => rfl
    | 3, _ => rfl
  intro q hq
  obtain rfl : q = 4 := hq
  conv => cbv
  intro ρ R'' _ _ _
  exact ⟨w0, w1, w2, w3, rfl, by rw [hsl2]; rfl⟩
end Go.Proofs.YtepfbdfbfimefaaDoor.Rd
end
section
set_option linter.unusedSimpArgs false
set_option linter.unusedVariables false
namespace Go.Se
open Go

theorem tyOf_by {P : Program} {t : Nat} {y : Ty} (h : tyOf P t = some y) : ∃ i, P.info? t = some i ∧ i.zero = some y.zero ∧ i.size = y.size ∧ i.bytes = y.bytes := by
  unfold tyOf at h
  split at h
  · rename_i i d hi hd
    split at h
    · rename_i z hz
      split at h
      · simp at h
        subst h
        exact ⟨i, hi, hz, rfl, rfl⟩
      · simp at h
    · simp at h
  · simp at h

theorem gen_app_z {C : Cx} {s : St} {o : Oper} {c : Call} {t tx e l m : Nat} {y : SV} {news : List Value} {yE : Ty} {K : RO → List (Nat × HB) → Nat → List Row → SV → Prop} (ho : o.op = .call c) (hc : c.callee = .builtin .append) (ha : evs s c.args.toList = some [.se l 0 0 0, y])
    (hat : c.argTypes[0]? = some t) (hat2 : c.argTypes[1]? = some tx) (ht : C.P.underlying t = some (.slice e)) (htx : C.P.underlying tx = some (.slice e)) (hE : tyOf C.P e = some yE) (hj : yE.size = 1) (hzs : yE.zero.cells.size = 1) (hs : SrcK s 1 y m news)
    (b : HB) (hb : find s.hp l = some b) (h63 : m ≤ 4611686018427387904) (hby : m * yE.bytes ≤ 140737488355328)
    (hK0 : m = 0 → K s.R s.hp s.nx s.rw_ (.se l 0 0 0)) (hK : m ≠ 0 → ∀ a n' cap zs, n' = m → zs = news → K s.R s.hp s.nx (⟨some a, n', cap, e, 1, zs⟩ :: s.rw_) (.v (.slice (some a) n' cap))) : GenP C s o K := by
  obtain ⟨j, he, hz, hjs, hjb⟩ := tyOf_by hE
  have hj : j.size = 1 := by rw [hjs, hj]
  rw [← hjb] at hby
  refine ⟨fun ρ w hw ev hev => ?_⟩
  have e2 := evs_arr hev ha
  have hsrc := src_sound (P := C.P) (hs := hw) (tx := tx) (.inl ⟨_, htx⟩) hs
  have hsrc : Src C.P j.size tx (val ρ y) m news w := by rw [hj]; exact hsrc
  have hat : ∀ ty xs, Builtin.append_ c.argTypes ty xs = Builtin.append_ #[t, tx] ty xs := by
    intro ty xs
    simp only [Builtin.append_, hat, hat2]
    rfl
  have hex : ∀ v' w', (Builtin.append_ #[t, tx] o.type #[.slice (some ⟨ρ l, 0, none⟩) 0 0, val ρ y]).run C.P w = .ok v' w' → (execOp ev o).run C.P w = .ok (.value v') w' := fun v' w' hrun => by
    unfold execOp
    rw [ho]
    simp only [resolve, hc, bind, pure, Sem.bind, invoke, builtin, e2, valL, hat]
    rw [show val ρ (.se l 0 0 0) = .slice (some ⟨ρ l, 0, none⟩) 0 0 from rfl, run_bind_pure hrun]
    rfl
  by_cases hm : m = 0
  · subst hm
    have hnw : news = [] := List.eq_nil_of_length_eq_zero (by simpa using hsrc.newsLen)
    subst hnw
    have hrun := run_append_room_src (P := C.P) w t tx o.type e j ht he (ρ l) 0 0 0 (val ρ y) 0 [] hsrc (Nat.le_refl _) (fun i hi => by simp at hi) (fun i hi => by simp at hi)
    rw [hex _ _ hrun]
    exact post_same (r := .se l 0 0 0) hw (hw.wf l b hb).1 (hK0 rfl)
  · have hfit : Builtin.nextslicecap (0 + m) 0 * j.bytes ≤ 281474976710656 := growslice_fits (by omega) (by rw [Nat.zero_add]; exact hby)
    have hold : (Builtin.firstCells j.size 0 (.slice (some ⟨ρ l, 0, none⟩) 0 0)).run C.P w.drew = .ok ([] : List Value).toArray w.drew :=
      run_firstCells_some (P := C.P) w.drew j.size 0 ⟨ρ l, 0, none⟩ 0 0 [] (by simp) (fun j u hu => by simp at hu)
    have hrun := run_append_grow_src (P := C.P) w t tx o.type e j yE.zero ht he hz (some ⟨ρ l, 0, none⟩) 0 0 [] hold (val ρ y) m news hsrc (by omega) (by omega) hfit
    rw [hex _ _ hrun]
    have hnl : news.length = m := by rw [hsrc.newsLen, hj, Nat.mul_one]
    have hge := grownCap_ge w (0 + m) 0 e
    have hcm : grownCap w (0 + m) 0 e ≤ maxLen := grownCap_le_maxLen w (0 + m) 0 e (by unfold maxLen; omega)
    refine post_row (w' := w.drew.alloc _) (q := ⟨some ⟨w.heap.size, 0, none⟩, 0 + m, grownCap w (0 + m) 0 e, e, 1, news⟩) hw ⟨rfl, rfl, rfl, by simp, fun k hk _ => heap_alloc_old w.drew _ hk⟩
      (.inl ⟨(by decide : (1 : Nat) ≠ 4096), by show news.length = (0 + m) * 1; omega, .inr ⟨w.heap.size, _, _, rfl, Nat.zero_le _, ⟨_, heap_alloc_new w.drew _, un0 _⟩, hge, hcm, ?_, ?_⟩⟩) rfl (hK hm _ _ _ _ (by omega) rfl)
    · simp only [Array.size_append, List.size_toArray, size_zeroCells, hzs, List.nil_append, hnl, Nat.mul_one]
      omega
    · simp only [Array.toList_append, List.nil_append]
      rw [show (0 + m) * 1 = news.length by omega]
      exact List.take_left
end Go.Se
end
section
namespace Go.Proofs.YtepfbdfbfimefaaDoor.Tyrb
open Go Go.Se Go.Proofs

/-- int -/
def y3 : Ty := ⟨.int .i64, 1, false, .int .i64 0, 8⟩
theorem ty3 : tyOf Tryd.prog 3 = some y3 := by kernel_rfl
/-- uint8 -/
def y5 : Ty := ⟨.int .u8, 1, false, .int .u8 0, 1⟩
theorem ty5 : tyOf Tryd.prog 5 = some y5 := by kernel_rfl
/-- []uint8 -/
def y22 : Ty := ⟨.slc 5, 1, false, .slice none 0 0, 24⟩
theorem ty22 : tyOf Tryd.prog 22 = some y22 := by kernel_rfl
/-- [32]uint8 -/
def y39 : Ty := ⟨.arr 32 5, 32, true, .agg #[.int .u8 0, .int .u8 0, .int .u8 0, .int .u8 0, .int .u8 0, .int .u8 0, .int .u8 0, .int .u8 0, .int .u8 0, .int .u8 0, .int .u8 0, .int .u8 0, .int .u8 0, .int .u8 0, .int .u8 0, .int .u8 0, .int .u8 0, .int .u8 0, .int .u8 0, .int .u8 0, .int .u8 0, .int .u8 0, .int .u8 0, .int .u8 0, .int .u8 0, .int .u8 0, .int .u8 0, .int .u8 0, .int .u8 0, .int .u8 0, .int .u8 0, .int .u8 0], 32⟩
theorem ty39 : tyOf Tryd.prog 39 = some y39 := by kernel_rfl

/-- function 9: pub-mintmark/spec.ReadAddress58 -/
def tys9 : Nat → Option Ty := fun t => find [(22, y22), (5, y5), (3, y3), (39, y39)] t
theorem ok9 : TysOk Tryd.prog tys9 := tysOk_of ⟨ty22, ty5, ty3, ty39, trivial⟩
end Go.Proofs.YtepfbdfbfimefaaDoor.Tyrb
end
section
set_option linter.unusedSimpArgs false
set_option linter.unusedVariables false
namespace Go.Proofs.YtepfbdfbfimefaaDoor.Rd
open Go Go.Se Go.Proofs Go.Proofs.YtepfbdfbfimefaaDoor.Co Go.Proofs.YtepfbdfbfimefaaDoor.Ht Go.Proofs.YtepfbdfbfimefaaDoor.Sha Go.Proofs.YtepfbdfbfimefaaDoor.Bf Go.Proofs.YtepfbdfbfimefaaDoor.Tyrb

/-- A text that is none, or too short. -/
def Bad (xs : List Int) : Prop := ¬ Bf.Good xs ∨ (dec xs).length < 5
def Right (K xs : List Int) : Prop := (sha K (sha K ((dec xs).take ((dec xs).length - 4)))).take 4 = (dec xs).drop ((dec xs).length - 4)
/-- What an address says. -/
structure Rd (K xs zs : List Int) (v k : Int) : Prop where
  short : Bad xs → k = 2
  wrong : ¬ Bad xs → ¬ Right K xs → k = 1
  right : ¬ Bad xs → Right K xs → k = 0 ∧ v = (dec xs).getD 0 0 ∧ zs = ((dec xs).take ((dec xs).length - 4)).drop 1

theorem dec_len (xs : List Int) (hg : Bf.Good xs) : (dec xs).length ≤ 2 * xs.length := by
  rw [dec, List.length_append, List.length_replicate, List.length_reverse]
  have h1 := ones_le xs
  have h2 := dl_sz (k := xs.length) (Nat.lt_of_lt_of_le (good_lt hg) (Nat.pow_le_pow_left (by decide) _))
  omega

set_option maxRecDepth 100000 in
set_option maxHeartbeats 4000000 in
theorem readS {P : Program} (hP : P = Tryd.prog) (R : RO) (K : List Int) (hK : RI R .u32 (some ⟨3, 0, none⟩) 64 K) (b : ByteArray) (xs : List Int) (hb : SB b xs) (hxb : ∀ x ∈ xs, 0 ≤ x ∧ x ≤ 255) (hn : xs.length ≤ 400) :
    RetP P 9 [.func (.func 10) #[] #[], .string b] R fun R' r => ∃ a n c zs v k, r = .tuple #[.slice a n c, .int .u8 v, .int .i64 k] ∧ RI R' .u8 a n zs ∧ n ≤ 1000 ∧ Rd K xs zs v k := by
  subst hP
  refine retP_vc (fz := [510, 741]) Tryd.func9 rfl (by decide) rfl ok9 ?_
  intro P bin cmp cnv neg com bnot beq ofN toN at_ sub_ scmp cat sget ssz ssub elem fld_ hP hA
  conv => cbv
  refine (unbase58S hP R b xs hb hxb (by omega)).callP rfl ?_
  rintro R1 _ hR1 ⟨a1, n1, c1, zs, ok, rfl, hc1, hr1, hok, hdec⟩
  conv => cbv
  by_cases hG : Bf.Good xs
  case neg =>
    obtain rfl : ok = false := by cases ok; rfl; exact absurd (hok.1 rfl) hG
    have eb : bnot false = true := by rw [bnot_ hA]; rfl
    simp (maxSteps := 10000000) only [eb]
    conv => cbv
    intro ρ R'' _ _ _
    exact ⟨none, 0, 0, [], 0, 2, rfl, RI.nil, by omega, ⟨fun _ => rfl, fun h => absurd (.inl hG) h, fun h => absurd (.inl hG) h⟩⟩
  obtain rfl : ok = true := hok.2 hG
  have hz := hdec hG
  subst hz
  have hlen := dec_len xs hG
  have hl1 := hr1.len
  have eb : bnot true = false := by rw [bnot_ hA]; rfl
  simp (maxSteps := 10000000) only [eb]
  conv => cbv
  have on1 := ofN_ hA n1
  by_cases h5 : (dec xs).length < 5
  · refine br_t (by rw [on1, cmp_lss hA]; simp; omega) ?_
    conv => cbv
    intro ρ R'' _ _ _
    exact ⟨none, 0, 0, [], 0, 2, rfl, RI.nil, by omega, ⟨fun _ => rfl, fun h => absurd (.inr h5) h, fun h => absurd (.inr h5) h⟩⟩
  refine br_f (by rw [on1, cmp_lss hA]; simp; omega) ?_
  conv => cbv
  have hbad : ¬ Bad xs := fun h => h.elim (fun h => h hG) (fun h => h5 h)
  obtain ⟨nn, hnn⟩ : ∃ nn, nn = bin .sub .i64 (ofN n1) 4 := ⟨_, rfl⟩
  simp (maxSteps := 10000000) only [← hnn]
  have hnn : nn = ((n1 - 4 : Nat) : Int) := by rw [hnn, on1, sub_i64 hA (by omega)]; omega
  obtain ⟨M, hM⟩ : ∃ M, M = n1 - 4 := ⟨_, rfl⟩
  rw [← hM] at hnn
  refine ⟨0, M, rfl, hnn.symm, by omega, by omega, ?_⟩
  intro a2 n2 c2 hn2 hc2 ha2
  conv => cbv
  have hr2 := hr1.part' (l := 0) (m := M) (n' := n2) (c := c1) (a' := a2) (by omega) (by omega) hn2 hc1 ha2
  rw [List.drop_zero, Nat.sub_zero] at hr2
  refine (hash2P hP R1 K (hK.le hR1) a2 n2 c2 _ hr2 (by omega) (by omega)).callQ rfl ?_
  rintro _ ⟨w0, w1, w2, w3, w4, w5, w6, w7, w8, w9, w10, w11, w12, w13, w14, w15, w16, w17, w18, w19, w20, w21, w22, w23, w24, w25, w26, w27, w28, w29, w30, w31, rfl, hsl⟩
  conv => cbv
  refine ⟨_, rfl, by decide, ?_⟩
  intro A n32 g0 hn32 hg0
  obtain rfl : n32 = 32 := hn32
  conv => cbv
  refine ⟨0, _, A, 0, rfl, rfl, by simp [Addr.add], by show 0 + 32 ≤ g0.length; rw [hg0]; decide, ?_⟩
  intro g1 hg1
  have hg1 : g1 = ints .u8 [w0, w1, w2, w3, w4, w5, w6, w7, w8, w9, w10, w11, w12, w13, w14, w15, w16, w17, w18, w19, w20, w21, w22, w23, w24, w25, w26, w27, w28, w29, w30, w31] := by rw [hg1, hg0]; rfl
  have hw1 := sha_wf K (sha K ((dec xs).take M))
  rw [hsl] at hw1
  conv => cbv
  refine ⟨[0, 1, 2, 3, 4, 5], [], Sha.mix hP, by decide +kernel, ?_⟩
  conv => cbv
  refine raw_slice_arr (n := 32) 0 4 rfl rfl (.inl ⟨rfl, rfl⟩) (.inr ⟨_, _, _, rfl, rfl, rfl⟩) (by decide) (by decide) (by rw [hP]; exact ty39) rfl (by rw [hP]; exact ty5) rfl ?_
  intro a3 m3 c3 hm3 hc3 ha3
  obtain rfl : A = a3 := by rw [ha3 (by decide)]; simp [Addr.add]
  obtain rfl : m3 = 4 := hm3
  obtain rfl : c3 = 32 := hc3
  conv => cbv
  refine ⟨M, n1, hnn.symm, rfl, by omega, by omega, ?_⟩
  intro a4 n4 c4 hn4 hc4 ha4
  conv => cbv
  have hr4 := hr1.part' (l := M) (m := n1) (n' := n4) (c := c1) (a' := a4) (by omega) (Nat.le_refl _) hn4 hc1 ha4
  rw [List.take_of_length_le (by rw [List.length_drop]; omega)] at hr4
  refine RetP.callLend (P := P) (f := 18) (vs := [.slice (some A) 4 32, .slice a4 n4 c4]) (R := R1) (r := ⟨some A, 32, 32, 39, 1, g1⟩) 0 rfl (Φ := fun v => ∃ r, v = .bool r ∧ (r = true ↔ [w0, w1, w2, w3] = (dec xs).drop M)) (fun R' hle hpub => by
    have h1 : RI R' .u8 (some A) 32 [w0, w1, w2, w3, w4, w5, w6, w7, w8, w9, w10, w11, w12, w13, w14, w15, w16, w17, w18, w19, w20, w21, w22, w23, w24, w25, w26, w27, w28, w29, w30, w31] := hpub.ri rfl (fun _ => rfl) rfl hg1 hw1
    have h2 : RI R' .u8 (some A) 4 [w0, w1, w2, w3] := h1.part' (l := 0) (m := 4) (n' := 4) (c := 32) (by decide) (by decide) rfl (by decide) (by simp [Addr.add])
    exact sameS hP R' (some A) a4 4 n4 32 c4 _ _ h2 (hr4.le hle) (by decide) (by omega)) rfl ?_ ⟨_, by rw [hP]; exact Tryd.func18, by decide, rfl⟩
  rintro _ ⟨r, rfl, hrr⟩
  have hRt : Right K xs ↔ [w0, w1, w2, w3] = (dec xs).drop M := by
    unfold Right
    rw [← hl1, ← hM, hsl]
    exact Iff.rfl
  conv => cbv
  refine ⟨⟨trivial, .refl _⟩, ?_⟩
  conv => cbv
  cases r with
  | false =>
    have eb : bnot false = true := by rw [bnot_ hA]; rfl
    simp (maxSteps := 10000000) only [eb]
    conv => cbv
    intro ρ R'' _ _ _
    have hnr : ¬ Right K xs := fun h => by cases hrr.2 (hRt.1 h)
    exact ⟨none, 0, 0, [], 0, 1, rfl, RI.nil, by omega, ⟨fun h => absurd h hbad, fun _ _ => rfl, fun _ h => absurd h hnr⟩⟩
  | true =>
    have eb : bnot true = false := by rw [bnot_ hA]; rfl
    simp (maxSteps := 10000000) only [eb]
    conv => cbv
    refine ⟨[1, 2, 3, 5, 6, 7, 0, 4, 8, 9, 10], [], Sha.mix hP, by decide +kernel, ?_⟩
    conv => cbv
    refine ⟨1, M, rfl, hnn.symm, by omega, by omega, ?_⟩
    intro a5 n5 c5 hn5 hc5 ha5
    have hr5 := hr1.part' (l := 1) (m := M) (n' := n5) (c := c1) (a' := a5) (by omega) (by omega) hn5 hc1 ha5
    conv => cbv
    refine ix_u8 hA hr1 0 rfl (by omega) ?_
    refine ld_u8 hA hr1 (by omega) (by omega) ?_
    intro v hv v0 v1
    conv => cbv
    refine ⟨⟨trivial, .refl _⟩, ?_⟩
    conv => cbv
    refine gen_app_z rfl rfl rfl rfl rfl (by rw [hP]; exact Tryd.underlying22) (by rw [hP]; exact Tryd.underlying22) (by rw [hP]; exact ty5) rfl rfl hr5.src _ rfl (by omega) (by show n5 * 1 ≤ _; omega) ?_ ?_
    · intro h0
      conv => cbv
      refine ⟨⟨⟨rfl, trivial⟩, .refl _⟩, ?_⟩
      conv => cbv
      intro ρ R'' _ _ _
      have hnil : ((dec xs).take M).drop 1 = [] := List.length_eq_zero_iff.1 (by have := hr5.len; rw [List.drop_take, ← this]; exact h0)
      exact ⟨_, 0, 0, [], v, 0, rfl, ⟨rfl, fun i h0 h1 => absurd h1 (by omega), fun x hx => by cases hx⟩, by omega, ⟨fun h => absurd h hbad, fun _ h => absurd (hRt.2 (hrr.1 rfl)) h, fun _ _ => ⟨rfl, hv, by rw [← hl1, ← hM, hnil]⟩⟩⟩
    · intro h0 a6 n6 c6 z6 hn6 hz6
      conv => cbv
      refine ⟨⟨⟨rfl, trivial⟩, List.sublist_cons_self _ _⟩, ?_⟩
      conv => cbv
      intro ρ R'' _ _ hpr
      have hr6 := (hpr _ (List.mem_cons_self ..)).ri (xs := ((dec xs).drop 1).take (M - 1)) (by show n6 = _; rw [← hr5.len]; omega) (fun _ => rfl) rfl hz6 hr5.wf
      exact ⟨_, n6, c6, _, v, 0, rfl, hr6, by omega, ⟨fun h => absurd h hbad, fun _ h => absurd (hRt.2 (hrr.1 rfl)) h, fun _ _ => ⟨rfl, hv, by rw [← hl1, ← hM, List.drop_take]⟩⟩⟩
end Go.Proofs.YtepfbdfbfimefaaDoor.Rd
end
section
namespace Go.Proofs.YtepfbdfbfimefaaDoor.Tyrc
open Go Go.Se Go.Proofs

/-- int -/
def y3 : Ty := ⟨.int .i64, 1, false, .int .i64 0, 8⟩
theorem ty3 : tyOf Tryd.prog 3 = some y3 := by kernel_rfl
/-- uint8 -/
def y5 : Ty := ⟨.int .u8, 1, false, .int .u8 0, 1⟩
theorem ty5 : tyOf Tryd.prog 5 = some y5 := by kernel_rfl
/-- []uint8 -/
def y22 : Ty := ⟨.slc 5, 1, false, .slice none 0 0, 24⟩
theorem ty22 : tyOf Tryd.prog 22 = some y22 := by kernel_rfl
/-- error -/
def y43 : Ty := ⟨.ifc, 1, false, .nilIface, 16⟩
theorem ty43 : tyOf Tryd.prog 43 = some y43 := by kernel_rfl
/-- [4]uint8 -/
def y66 : Ty := ⟨.arr 4 5, 4, true, .agg #[.int .u8 0, .int .u8 0, .int .u8 0, .int .u8 0], 4⟩
theorem ty66 : tyOf Tryd.prog 66 = some y66 := by kernel_rfl

/-- function 20: pub-mintmark/pub/btcdaddress/base58.CheckDecode -/
def tys20 : Nat → Option Ty := fun t => find [(22, y22), (5, y5), (3, y3), (43, y43), (66, y66)] t
theorem ok20 : TysOk Tryd.prog tys20 := tysOk_of ⟨ty22, ty5, ty3, ty43, ty66, trivial⟩
end Go.Proofs.YtepfbdfbfimefaaDoor.Tyrc
end
section
set_option linter.unusedSimpArgs false
set_option linter.unusedVariables false
namespace Go.Proofs.YtepfbdfbfimefaaDoor.Rd
open Go Go.Se Go.Proofs Go.Proofs.YtepfbdfbfimefaaDoor.Co Go.Proofs.YtepfbdfbfimefaaDoor.Ht Go.Proofs.YtepfbdfbfimefaaDoor.Sha Go.Proofs.YtepfbdfbfimefaaDoor.Bf Go.Proofs.YtepfbdfbfimefaaDoor.Tyrc

/-- The package's two errors. -/
structure Es (R : RO) (ac ai : Addr) : Prop where
  ck : rcell R ⟨0, 0, none⟩ = some (.iface 93 (.pointer (some ac)))
  fm : rcell R ⟨2, 0, none⟩ = some (.iface 93 (.pointer (some ai)))
  ne : ai ≠ ac
  bc : ∃ c t, R ac.block = some (.cells c t (0, 0))
  bi : ∃ c t, R ai.block = some (.cells c t (0, 0))

theorem Es.le {R R' : RO} {ac ai : Addr} (h : Es R ac ai) (hl : R.le R') : Es R' ac ai :=
  ⟨rcell_le hl h.ck, rcell_le hl h.fm, h.ne, h.bc.imp fun c h => h.imp fun t h => hl _ _ h, h.bi.imp fun c h => h.imp fun t h => hl _ _ h⟩

theorem list4 {α : Type} (l : List α) (h : l.length = 4) : ∃ a b c d, l = [a, b, c, d] := by
  obtain ⟨a, l1, e1, h⟩ := uncons h
  obtain ⟨b, l2, e2, h⟩ := uncons h
  obtain ⟨c, l3, e3, h⟩ := uncons h
  obtain ⟨d, l4, e4, h⟩ := uncons h
  exact ⟨a, b, c, d, by rw [e1, e2, e3, e4, List.length_eq_zero_iff.1 h]⟩

set_option maxRecDepth 100000 in
set_option maxHeartbeats 4000000 in
theorem decodeC {P : Program} (hP : P = Tryd.prog) (R : RO) (hG : RI R .u8 (some ⟨1, 0, none⟩) 256 t58) (ac ai : Addr) (hE : Es R ac ai) (K : List Int) (hK : RI R .u32 (some ⟨3, 0, none⟩) 64 K) (b : ByteArray) (xs : List Int) (hb : SB b xs) (hxb : ∀ x ∈ xs, 0 ≤ x ∧ x ≤ 255) (hn : xs.length ≤ 400) :
    RetP P 20 [.string b] R fun R' r => R.le R' ∧
      ((Bad xs ∧ r = .tuple #[.slice none 0 0, .int .u8 0, .iface 93 (.pointer (some ai))]) ∨
       (¬ Bad xs ∧ ¬ Right K xs ∧ r = .tuple #[.slice none 0 0, .int .u8 0, .iface 93 (.pointer (some ac))]) ∨
       (¬ Bad xs ∧ Right K xs ∧ ∃ a n c zs v, r = .tuple #[.slice a n c, .int .u8 v, .nilIface] ∧ RI R' .u8 a n zs ∧ n ≤ 1000 ∧ v = (dec xs).getD 0 0 ∧ zs = ((dec xs).take ((dec xs).length - 4)).drop 1)) := by
  subst hP
  refine retP_vc (fz := [506]) Tryd.func20 rfl (by decide) rfl ok20 ?_
  intro P bin cmp cnv neg com bnot beq ofN toN at_ sub_ scmp cat sget ssz ssub elem fld_ hP hA
  conv => cbv
  refine (decodeI hP R hG b xs hb hxb (by omega)).callP rfl ?_
  rintro R1 _ hR1 ⟨a1, n1, c1, zs, rfl, hc1, hr1, hdec, hnone⟩
  conv => cbv
  have on1 := ofN_ hA n1
  have hl1 := hr1.len
  by_cases h5 : n1 < 5
  · refine br_t (by rw [on1, cmp_lss hA]; simp; omega) ?_
    conv => cbv
    refine ⟨[0, 1, 2, 3], [], Sha.mix hP, by decide +kernel, ?_⟩
    conv => cbv
    refine ld_k (.inl (rcell_le hR1 hE.fm)) ?_
    conv => cbv
    intro ρ R'' hle _ _
    refine ⟨RO.le_trans hR1 hle, .inl ⟨?_, rfl⟩⟩
    by_cases hg : Bf.Good xs
    · rw [hdec hg] at hl1
      exact .inr (by omega)
    · exact .inl hg
  have hg : Bf.Good xs := by
    by_cases hg : Bf.Good xs
    · exact hg
    · rw [hnone hg] at hl1
      simp at hl1
      omega
  have hz := hdec hg
  subst hz
  have hbad : ¬ Bad xs := fun h => h.elim (fun h => h hg) (fun h => h5 (by omega))
  have hlen := dec_len xs hg
  refine br_f (by rw [on1, cmp_lss hA]; simp; omega) ?_
  conv => cbv
  refine ix_u8 hA hr1 0 rfl (by omega) ?_
  refine ld_u8 hA hr1 (by omega) (by omega) ?_
  intro v hv v0 v1
  conv => cbv
  refine ⟨_, rfl, by decide, ?_⟩
  intro A n4 g0 hn4 hg0
  obtain rfl : n4 = 4 := hn4
  conv => cbv
  refine ⟨[0, 1, 2, 3, 4, 5, 6], [6], Sha.mix hP, by decide +kernel, ?_⟩
  conv => cbv
  obtain ⟨nn, hnn⟩ : ∃ nn, nn = bin .sub .i64 (ofN n1) 4 := ⟨_, rfl⟩
  simp (maxSteps := 10000000) only [← hnn]
  have hnn : nn = ((n1 - 4 : Nat) : Int) := by rw [hnn, on1, sub_i64 hA (by omega)]; omega
  obtain ⟨M, hM⟩ : ∃ M, M = n1 - 4 := ⟨_, rfl⟩
  rw [← hM] at hnn
  refine ⟨M, n1, hnn.symm, rfl, by omega, by omega, ?_⟩
  intro a4 m4 c4 hm4 hc4 ha4
  have hr4 := hr1.part' (l := M) (m := n1) (n' := m4) (c := c1) (a' := a4) (by omega) (Nat.le_refl _) hm4 hc1 ha4
  rw [List.take_of_length_le (by rw [List.length_drop]; omega)] at hr4
  conv => cbv
  obtain ⟨x0, x1, x2, x3, hxl⟩ := list4 ((dec xs).drop M) (by rw [List.length_drop]; omega)
  rw [hxl] at hr4
  have hm4 : m4 = 4 := by omega
  refine ⟨m4, _, hr4.src, .inr ⟨0, _, A, 0, A, rfl, rfl, rfl, by simp [Addr.add], by show 0 + min m4 4 * 1 ≤ g0.length; rw [hg0, hm4]; decide, ?_⟩⟩
  intro q g1 hq hg1
  have hg1 : g1 = ints .u8 [x0, x1, x2, x3] := by rw [hg1, hq, hm4, hg0]; rfl
  subst hg1
  conv => cbv
  refine ⟨[0, 1, 2, 3, 4, 6, 5, 7], [], Sha.mix hP, by decide +kernel, ?_⟩
  conv => cbv
  have hnn2 : bin .sub .i64 (ofN n1) 4 = (M : Nat) := by rw [on1, sub_i64 hA (by omega)]; omega
  refine ⟨0, M, rfl, hnn2.symm, by omega, by omega, ?_⟩
  intro a2 n2 c2 hn2 hc2 ha2
  have hr2 := hr1.part' (l := 0) (m := M) (n' := n2) (c := c1) (a' := a2) (by omega) (by omega) hn2 hc1 ha2
  rw [List.drop_zero, Nat.sub_zero] at hr2
  conv => cbv
  refine ⟨_, ⟨ints .u8 [x0, x1, x2, x3], rfl, rfl, fun i v hv => .inr ⟨_, List.mem_cons_self .., A, i, rfl, rfl, hv⟩⟩, ?_⟩
  conv => cbv
  refine (checksumP hP R1 K (hK.le hR1) a2 n2 c2 _ hr2 (by omega) (by omega)).callQ rfl ?_
  rintro _ ⟨w0, w1, w2, w3, rfl, hsl⟩
  have hRt : Right K xs ↔ [w0, w1, w2, w3] = [x0, x1, x2, x3] := by
    unfold Right
    rw [← hl1, ← hM, hsl, hxl]
  conv => cbv
  refine ⟨⟨trivial, .refl _⟩, ?_⟩
  conv => cbv
  refine raw_neq rfl (by rw [hP]; kernel_rfl) (by rw [hP]; exact ty66) rfl (by rw [hP]; exact ty5) rfl rfl [w0, w1, w2, w3] [x0, x1, x2, x3] rfl rfl rfl rfl ?_
  intro bb hbb
  conv => cbv
  cases bb with
  | true =>
    have hnr : ¬ Right K xs := fun h => hbb.1 rfl (hRt.1 h)
    conv => cbv
    refine ⟨[0, 1, 2, 3], [], Sha.mix hP, by decide +kernel, ?_⟩
    conv => cbv
    refine ld_k (.inl (rcell_le hR1 hE.ck)) ?_
    conv => cbv
    intro ρ R'' hle _ _
    exact ⟨RO.le_trans hR1 hle, .inr (.inl ⟨hbad, hnr, rfl⟩)⟩
  | false =>
    have hrt : Right K xs := by
      refine hRt.2 ?_
      by_cases h : [w0, w1, w2, w3] = [x0, x1, x2, x3]
      · exact h
      · cases hbb.2 h
    conv => cbv
    refine ⟨1, M, rfl, hnn2.symm, by omega, by omega, ?_⟩
    intro a5 n5 c5 hn5 hc5 ha5
    have hr5 := hr1.part' (l := 1) (m := M) (n' := n5) (c := c1) (a' := a5) (by omega) (by omega) hn5 hc1 ha5
    conv => cbv
    refine ⟨0, [], _, _, _, n5, _, .nil, .refl _, hr5.src, by omega, by omega, ?_⟩
    intro a6 n6 c6 z6 hn6 hz6 hs6
    conv => cbv
    intro ρ R'' hle _ hpr
    have hr6 := (hpr _ (List.mem_cons_self ..)).ri (xs := ((dec xs).drop 1).take (M - 1)) (by show n6 = _; rw [← hr5.len]; omega) hs6 rfl hz6 hr5.wf
    exact ⟨RO.le_trans hR1 hle, .inr (.inr ⟨hbad, hrt, a6, n6, c6, _, v, rfl, hr6, by omega, hv, by rw [← hl1, ← hM, List.drop_take]⟩)⟩
end Go.Proofs.YtepfbdfbfimefaaDoor.Rd
end
section
namespace Go.Proofs.YtepfbdfbfimefaaDoor.Tyrd
open Go Go.Se Go.Proofs

/-- int -/
def y3 : Ty := ⟨.int .i64, 1, false, .int .i64 0, 8⟩
theorem ty3 : tyOf Tryd.prog 3 = some y3 := by kernel_rfl
/-- uint8 -/
def y5 : Ty := ⟨.int .u8, 1, false, .int .u8 0, 1⟩
theorem ty5 : tyOf Tryd.prog 5 = some y5 := by kernel_rfl
/-- string -/
def y9 : Ty := ⟨.str, 1, false, .string ByteArray.empty, 16⟩
theorem ty9 : tyOf Tryd.prog 9 = some y9 := by kernel_rfl
/-- error -/
def y43 : Ty := ⟨.ifc, 1, false, .nilIface, 16⟩
theorem ty43 : tyOf Tryd.prog 43 = some y43 := by kernel_rfl

/-- function 4: pub-mintmark/laws.FnReadAddress58 -/
def tys4 : Nat → Option Ty := fun t => find [(9, y9), (3, y3), (5, y5)] t
theorem ok4 : TysOk Tryd.prog tys4 := tysOk_of ⟨ty9, ty3, ty5, trivial⟩

/-- function 11: pub-mintmark/impl.ReadAddress58 -/
def tys11 : Nat → Option Ty := fun t => find [(43, y43)] t
theorem ok11 : TysOk Tryd.prog tys11 := tysOk_of ⟨ty43, trivial⟩
end Go.Proofs.YtepfbdfbfimefaaDoor.Tyrd
end
