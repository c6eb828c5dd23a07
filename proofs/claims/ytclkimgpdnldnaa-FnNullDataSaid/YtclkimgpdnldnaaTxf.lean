/- The sizes of a transaction's parts are looked at. -/
import Derived.Test.YtclkimgpdnldnaaTxd
set_option linter.unusedSimpArgs false
set_option linter.unusedVariables false
namespace Go.Proofs.Ytclkimgpdnldnaa.Tx
open Go Go.Se Go.Proofs Go.Proofs.Ytclkimgpdnldnaa.Tytx





set_option maxRecDepth 100000 in
theorem fits7 {P : Program} (hP : P = Try.prog) (R : RO) (cs : List Value) (g : GOut) (h : OutAt R cs g) : RetP P 82 [.agg cs.toArray] R fun _ v => ∃ b, v = .bool b := by
  subst hP
  obtain ⟨a, n, c, rfl, h1, h2, h3⟩ := h
  refine retP_vc (fz := []) Try.func82 rfl (by decide) rfl ok82 ?_
  intro P bin cmp cnv neg com bnot beq ofN toN at_ sub_ scmp cat sget ssz ssub elem fld_ hP hA
  conv => cbv
  refine br_of (fun _ => ?_) (fun _ => ?_)
  · conv => cbv
    intro ρ R'' _ _ _
    exact ⟨_, rfl⟩
  · conv => cbv
    intro ρ R'' _ _ _
    exact ⟨_, rfl⟩

set_option maxRecDepth 100000 in
theorem fits5 {P : Program} (hP : P = Try.prog) (R : RO) (a : Option Addr) (n c : Nat) (xs : List (List Int)) (h : LAt R 1 BAt a n c xs) : RetP P 113 [.slice a n c] R fun _ v => ∃ b, v = .bool b := by
  subst hP
  refine retP_vc (fz := []) Try.func113 rfl (by decide) rfl ok113 ?_
  intro P bin cmp cnv neg com bnot beq ofN toN at_ sub_ scmp cat sget ssz ssub elem fld_ hP hA
  conv => cbv
  refine br_of (fun _ => ?_) (fun _ => ?_)
  · conv => cbv
    intro ρ R'' _ _ _
    exact ⟨_, rfl⟩
  conv => cbv
  refine ⟨Int, fun x => ⟨[(10, .v (.int .i64 x)), (9, .v (.int .i64 (ofN n))), (8, .v (.slice a n c))], R, [], 0, []⟩,
    fun k x => ∃ i : Nat, x = i ∧ i ≤ n ∧ k = n - i, ⟨n, 0, ⟨⟨rfl, rfl, rfl, trivial⟩, rfl, trivial, rfl, .refl _⟩, 0, rfl, by omega, rfl⟩, ?_⟩
  rintro k x ⟨i, hx, hi, hk⟩
  conv => cbv
  have o := ofN_ hA n
  have hmx := h.mx
  have hlen := h.len
  unfold maxLen at hmx
  by_cases hlt : i < n
  · refine br_t (by rw [o, cmp_lss hA]; simp; omega) ?_
    conv => cbv
    refine ix_at hA h i hx hlt ?_
    obtain ⟨g, hxi⟩ : ∃ g, xs[i]? = some g := ⟨_, List.getElem?_eq_getElem (by omega)⟩
    refine ld_elem hA h i hx hxi ?_
    rintro _ _ ⟨a1, n1, c1, rfl, h1, h2⟩
    refine ⟨_, rfl, ?_⟩
    conv => cbv
    refine br_of (fun _ => ?_) (fun _ => ?_)
    · conv => cbv
      intro ρ R'' _ _ _
      exact ⟨_, rfl⟩
    · conv => cbv
      refine ⟨n - (i + 1), x + 1, by omega, ⟨⟨?_, rfl, rfl, trivial⟩, rfl, trivial, rfl, .refl _⟩, i + 1, by show x + 1 = ((i + 1 : Nat) : Int); omega, by omega, rfl⟩
      rw [add_i64 hA (by omega)]
      rfl
  · refine br_f (by rw [o, cmp_lss hA]; simp; omega) ?_
    conv => cbv
    intro ρ R'' _ _ _
    exact ⟨_, rfl⟩

set_option maxRecDepth 100000 in
theorem fits4 {P : Program} (hP : P = Try.prog) (R : RO) (cs : List Value) (g : GIn) (h : InAt R cs g) : RetP P 81 [.agg cs.toArray] R fun _ v => ∃ b, v = .bool b := by
  subst hP
  obtain ⟨a, n, c, a2, n2, c2, rfl, hh, h1, h2, h3, h4, h5, h6⟩ := h
  obtain ⟨hash, idx, script, wit, sq⟩ := g
  simp only at hh h1 h2 h3 h4 h6 ⊢
  clear h1
  obtain ⟨e0, e1, e2, e3, e4, e5, e6, e7, e8, e9, e10, e11, e12, e13, e14, e15, e16, e17, e18, e19, e20, e21, e22, e23, e24, e25, e26, e27, e28, e29, e30, e31, rfl⟩ := l32 hh
  refine retP_vc (fz := []) Try.func81 rfl (by decide) rfl ok81 ?_
  intro P bin cmp cnv neg com bnot beq ofN toN at_ sub_ scmp cat sget ssz ssub elem fld_ hP hA
  conv => cbv
  refine br_of (fun _ => ?_) (fun _ => ?_)
  · conv => cbv
    intro ρ R'' _ _ _
    exact ⟨_, rfl⟩
  conv => cbv
  refine (fits5 hP R a2 n2 c2 wit h6).callQ rfl ?_
  rintro _ ⟨b, rfl⟩
  conv => cbv
  refine br_of (fun _ => ?_) (fun _ => ?_)
  · conv => cbv
    intro ρ R'' _ _ _
    exact ⟨_, rfl⟩
  · conv => cbv
    intro ρ R'' _ _ _
    exact ⟨_, rfl⟩

set_option maxRecDepth 100000 in
theorem fits6 {P : Program} (hP : P = Try.prog) (R : RO) (a : Option Addr) (n c : Nat) (xs : List GOut) (h : LAt R 2 OutAt a n c xs) : RetP P 48 [.slice a n c] R fun _ v => ∃ b, v = .bool b := by
  subst hP
  refine retP_vc (fz := []) Try.func48 rfl (by decide) rfl ok48 ?_
  intro P bin cmp cnv neg com bnot beq ofN toN at_ sub_ scmp cat sget ssz ssub elem fld_ hP hA
  conv => cbv
  refine br_of (fun _ => ?_) (fun _ => ?_)
  · conv => cbv
    intro ρ R'' _ _ _
    exact ⟨_, rfl⟩
  conv => cbv
  refine ⟨Int, fun x => ⟨[(10, .v (.int .i64 x)), (9, .v (.int .i64 (ofN n))), (8, .v (.slice a n c))], R, [], 0, []⟩,
    fun k x => ∃ i : Nat, x = i ∧ i ≤ n ∧ k = n - i, ⟨n, 0, ⟨⟨rfl, rfl, rfl, trivial⟩, rfl, trivial, rfl, .refl _⟩, 0, rfl, by omega, rfl⟩, ?_⟩
  rintro k x ⟨i, hx, hi, hk⟩
  conv => cbv
  have o := ofN_ hA n
  have hmx := h.mx
  have hlen := h.len
  unfold maxLen at hmx
  by_cases hlt : i < n
  · refine br_t (by rw [o, cmp_lss hA]; simp; omega) ?_
    conv => cbv
    refine ix_at hA h i hx hlt ?_
    obtain ⟨g, hxi⟩ : ∃ g, xs[i]? = some g := ⟨_, List.getElem?_eq_getElem (by omega)⟩
    refine ld_whole hA h i hx hxi ?_
    rintro _ - h1
    obtain ⟨a1, n1, c1, rfl, h2⟩ := h1
    conv => cbv
    refine (fits7 hP R _ _ ⟨a1, n1, c1, rfl, h2⟩).callQ rfl ?_
    rintro _ ⟨b, rfl⟩
    conv => cbv
    refine br_of (fun _ => ?_) (fun _ => ?_)
    · conv => cbv
      intro ρ R'' _ _ _
      exact ⟨_, rfl⟩
    · conv => cbv
      refine ⟨n - (i + 1), x + 1, by omega, ⟨⟨?_, rfl, rfl, trivial⟩, rfl, trivial, rfl, .refl _⟩, i + 1, by show x + 1 = ((i + 1 : Nat) : Int); omega, by omega, rfl⟩
      rw [add_i64 hA (by omega)]
      rfl
  · refine br_f (by rw [o, cmp_lss hA]; simp; omega) ?_
    conv => cbv
    intro ρ R'' _ _ _
    exact ⟨_, rfl⟩

set_option maxRecDepth 100000 in
theorem fits3 {P : Program} (hP : P = Try.prog) (R : RO) (a : Option Addr) (n c : Nat) (xs : List GIn) (h : LAt R 36 InAt a n c xs) : RetP P 47 [.slice a n c] R fun _ v => ∃ b, v = .bool b := by
  subst hP
  refine retP_vc (fz := []) Try.func47 rfl (by decide) rfl ok47 ?_
  intro P bin cmp cnv neg com bnot beq ofN toN at_ sub_ scmp cat sget ssz ssub elem fld_ hP hA
  conv => cbv
  refine br_of (fun _ => ?_) (fun _ => ?_)
  · conv => cbv
    intro ρ R'' _ _ _
    exact ⟨_, rfl⟩
  conv => cbv
  refine ⟨Int, fun x => ⟨[(10, .v (.int .i64 x)), (9, .v (.int .i64 (ofN n))), (8, .v (.slice a n c))], R, [], 0, []⟩,
    fun k x => ∃ i : Nat, x = i ∧ i ≤ n ∧ k = n - i, ⟨n, 0, ⟨⟨rfl, rfl, rfl, trivial⟩, rfl, trivial, rfl, .refl _⟩, 0, rfl, by omega, rfl⟩, ?_⟩
  rintro k x ⟨i, hx, hi, hk⟩
  conv => cbv
  have o := ofN_ hA n
  have hmx := h.mx
  have hlen := h.len
  unfold maxLen at hmx
  by_cases hlt : i < n
  · refine br_t (by rw [o, cmp_lss hA]; simp; omega) ?_
    conv => cbv
    refine ix_at hA h i hx hlt ?_
    obtain ⟨g, hxi⟩ : ∃ g, xs[i]? = some g := ⟨_, List.getElem?_eq_getElem (by omega)⟩
    refine ld_whole hA h i hx hxi ?_
    intro cs hcs h1
    have hin := h1
    obtain ⟨a1, n1, c1, a2, n2, c2, rfl, hh, h2⟩ := h1
    obtain ⟨hash, idx, script, wit, sq⟩ := g
    simp only at hh h2 ⊢
    obtain ⟨e0, e1, e2, e3, e4, e5, e6, e7, e8, e9, e10, e11, e12, e13, e14, e15, e16, e17, e18, e19, e20, e21, e22, e23, e24, e25, e26, e27, e28, e29, e30, e31, rfl⟩ := l32 hh
    conv => cbv
    refine (fits4 hP R _ _ hin).callQ rfl ?_
    rintro _ ⟨b, rfl⟩
    conv => cbv
    refine br_of (fun _ => ?_) (fun _ => ?_)
    · conv => cbv
      intro ρ R'' _ _ _
      exact ⟨_, rfl⟩
    · conv => cbv
      refine ⟨n - (i + 1), x + 1, by omega, ⟨⟨?_, rfl, rfl, trivial⟩, rfl, trivial, rfl, .refl _⟩, i + 1, by show x + 1 = ((i + 1 : Nat) : Int); omega, by omega, rfl⟩
      rw [add_i64 hA (by omega)]
      rfl
  · refine br_f (by rw [o, cmp_lss hA]; simp; omega) ?_
    conv => cbv
    intro ρ R'' _ _ _
    exact ⟨_, rfl⟩

set_option maxRecDepth 100000 in
theorem fits2 {P : Program} (hP : P = Try.prog) (R : RO) (cs : List Value) (g : GTx) (h : TxAt R cs g) : RetP P 16 [.agg cs.toArray] R fun _ v => ∃ b, v = .bool b := by
  subst hP
  obtain ⟨a, n, c, a2, n2, c2, rfl, h1, h2, h3, h4⟩ := h
  refine retP_vc (fz := []) Try.func16 rfl (by decide) rfl ok16 ?_
  intro P bin cmp cnv neg com bnot beq ofN toN at_ sub_ scmp cat sget ssz ssub elem fld_ hP hA
  conv => cbv
  refine (fits3 hP R a n c _ h3).callQ rfl ?_
  rintro _ ⟨b, rfl⟩
  conv => cbv
  refine br_of (fun _ => ?_) (fun _ => ?_)
  · conv => cbv
    intro ρ R'' _ _ _
    exact ⟨_, rfl⟩
  conv => cbv
  refine (fits6 hP R a2 n2 c2 _ h4).callQ rfl ?_
  rintro _ ⟨b, rfl⟩
  conv => cbv
  refine br_of (fun _ => ?_) (fun _ => ?_)
  · conv => cbv
    intro ρ R'' _ _ _
    exact ⟨_, rfl⟩
  · conv => cbv
    intro ρ R'' _ _ _
    exact ⟨_, rfl⟩
end Go.Proofs.Ytclkimgpdnldnaa.Tx
