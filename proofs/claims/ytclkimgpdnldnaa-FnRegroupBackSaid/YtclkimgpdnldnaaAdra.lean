/- Slices: a copy; are two the same. -/
import Derived.Test.YtclkimgpdnldnaaTyadr
import Derived.Test.YtclkimgpdnldnaaSn
set_option linter.unusedSimpArgs false
set_option linter.unusedVariables false
namespace Go.Proofs.Ytclkimgpdnldnaa.Adr
open Go Go.Se Go.Proofs

theorem mix {P : Program} (hP : P = Try.prog) : P.follows .mixedOrders = true := by subst hP; rfl

set_option maxRecDepth 100000 in
theorem copied {P : Program} (hP : P = Try.prog) (R : RO) (a : Option Addr) (n cap : Nat) (xs : List Int) (h : RI R .u8 a n xs) (hn : n ≤ 1000000000000) :
    RetP P 57 [.slice a n cap] R fun R' v => ∃ a' n' c', v = .slice a' n' c' ∧ n' = n ∧ RI R' .u8 a' n' xs := by
  subst hP
  refine retP_vc (fz := []) Try.func57 rfl (by decide) rfl ok57 ?_
  intro P bin cmp cnv neg com bnot beq ofN toN at_ sub_ scmp cat sget ssz ssub elem fld_ hP hA
  conv => cbv
  refine ⟨0, [], _, _, n, ints .u8 xs, .own 0 0 _ [] rfl rfl rfl rfl (by decide), h.src, by omega, by omega, ?_⟩
  intro a' n' c' zs hn' hz hs
  conv => cbv
  intro ρ R'' hle _ hpr
  exact ⟨a', n', c', rfl, by omega, (hpr _ (List.mem_cons_self ..)).ri (by show n' = _; rw [← h.len]; omega) hs rfl hz h.wf⟩

set_option maxRecDepth 100000 in
theorem same {P : Program} (hP : P = Try.prog) (R : RO) (a b : Option Addr) (n m cap c2 : Nat) (xs ys : List Int) (h : RI R .u8 a n xs) (h2 : RI R .u8 b m ys) (hn : n ≤ 1000000000000) (hm : m ≤ 1000000000000) :
    RetP P 23 [.slice a n cap, .slice b m c2] R fun _ v => ∃ r, v = .bool r ∧ (r = true ↔ xs = ys) := by
  subst hP
  have hl := h.len
  have hl2 := h2.len
  refine retP_vc (fz := []) Try.func23 rfl (by decide) rfl ok23 ?_
  intro P bin cmp cnv neg com bnot beq ofN toN at_ sub_ scmp cat sget ssz ssub elem fld_ hP hA
  conv => cbv
  have o := ofN_ hA n
  have o2 := ofN_ hA m
  by_cases h0 : n = m
  case neg =>
    refine br_t (by rw [o, o2, cmp_neq hA]; simp; omega) ?_
    conv => cbv
    intro ρ R'' _ _ _
    exact ⟨_, rfl, by simp; intro hx; rw [hx] at hl; omega⟩
  refine br_f (by rw [o, o2, cmp_neq hA]; simp; omega) ?_
  conv => cbv
  refine ⟨Int, fun x => ⟨[(5, .v (.int .i64 x)), (0, .v (.slice a n cap)), (1, .v (.slice b m c2))], R, [], 0, []⟩,
    fun k x => ∃ i : Nat, x = i ∧ i ≤ n ∧ k = n - i ∧ xs.take i = ys.take i, ⟨n, 0, ⟨⟨rfl, rfl, rfl, trivial⟩, rfl, trivial, rfl, rfl⟩, 0, rfl, by omega, rfl, rfl⟩, ?_⟩
  rintro k x ⟨i, hx, hi, hk, ht⟩
  conv => cbv
  by_cases hlt : i < n
  · refine br_t (by rw [o, cmp_lss hA]; simp; omega) ?_
    conv => cbv
    refine ⟨[0, 1, 2, 3, 4, 5, 6, 7, 8], mix hP, by kernel_rfl, ?_⟩
    conv => cbv
    refine ix_u8 hA h i hx (by omega) ?_
    refine ld_u8 hA h (by omega) (by omega) ?_
    intro c hc c0 c1
    conv => cbv
    refine ix_u8 hA h2 i hx (by omega) ?_
    refine ld_u8 hA h2 (by omega) (by omega) ?_
    intro d hd d0 d1
    conv => cbv
    have hi1 : i < xs.length := by omega
    have hi2 : i < ys.length := by omega
    rw [hx, Int.toNat_natCast, List.getD_eq_getElem?_getD, List.getElem?_eq_getElem hi1] at hc
    rw [hx, Int.toNat_natCast, List.getD_eq_getElem?_getD, List.getElem?_eq_getElem hi2] at hd
    simp only [Option.getD_some] at hc hd
    by_cases he : c = d
    · refine br_f (by rw [cmp_neq hA, he]; simp) ?_
      conv => cbv
      refine ⟨n - (i + 1), x + 1, by omega, ⟨⟨?_, rfl, rfl, trivial⟩, rfl, trivial, rfl, rfl⟩, i + 1, by show x + 1 = ((i + 1 : Nat) : Int); omega, by omega, rfl, ?_⟩
      · rw [add_i64 hA (by omega)]; rfl
      · rw [List.take_add_one, List.take_add_one, ht, List.getElem?_eq_getElem hi1, List.getElem?_eq_getElem hi2, ← hc, ← hd, he]
    · refine br_t (by rw [cmp_neq hA]; simpa using he) ?_
      conv => cbv
      intro ρ R'' _ _ _
      refine ⟨_, rfl, by simp; intro hxy; subst hxy; exact he (by rw [hc, hd])⟩
  · refine br_f (by rw [o, cmp_lss hA]; simp; omega) ?_
    conv => cbv
    intro ρ R'' _ _ _
    refine ⟨_, rfl, ?_⟩
    have : i = n := by omega
    subst this
    rw [List.take_of_length_le (by omega), List.take_of_length_le (by omega)] at ht
    simp [ht]
end Go.Proofs.Ytclkimgpdnldnaa.Adr
