/- The commitment of witnesses: the small functions. -/
import Derived.Test.YtclkimgpdnldnaaTxo
import Derived.Test.YtclkimgpdnldnaaTytc
import Derived.Test.YtclkimgpdnldnaaSy
set_option linter.unusedSimpArgs false
set_option linter.unusedVariables false
namespace Go.Proofs.Ytclkimgpdnldnaa.Tx
open Go Go.Se Go.Proofs Go.Proofs.Ytclkimgpdnldnaa.Tytc

def magic : List Int := [106, 36, 170, 33, 169, 237]


set_option maxRecDepth 100000 in
theorem magicS {P : Program} (hP : P = Try.prog) (R : RO) : RetP P 60 [] R fun R' v => ∃ a c, v = .slice a 6 c ∧ RI R' .u8 a 6 magic := by
  subst hP
  refine retP_vc (fz := []) Try.func60 rfl (by decide) rfl ok60 ?_
  intro P bin cmp cnv neg com bnot beq ofN toN at_ sub_ scmp cat sget ssz ssub elem fld_ hP hA
  conv => cbv
  intro ρ R'' _ hpub _
  exact ⟨some ⟨ρ 0, 0, none⟩, 6, rfl, RI.blk (xs := magic) (hpub 0 _ rfl) (by decide)⟩

set_option maxRecDepth 100000 in
theorem magicI {P : Program} (hP : P = Try.prog) (R : RO) : RetP P 91 [] R fun R' v => ∃ a c, v = .slice a 6 c ∧ RI R' .u8 a 6 magic := by
  subst hP
  refine retP_vc (fz := []) Try.func91 rfl (by decide) rfl ok91 ?_
  intro P bin cmp cnv neg com bnot beq ofN toN at_ sub_ scmp cat sget ssz ssub elem fld_ hP hA
  conv => cbv
  intro ρ R'' _ hpub _
  exact ⟨some ⟨ρ 0, 0, none⟩, 6, rfl, RI.blk (xs := magic) (hpub 0 _ rfl) (by decide)⟩


set_option maxRecDepth 100000 in
theorem sameL {P : Program} (hP : P = Try.prog) (R : RO) (a b : Option Addr) (n m cap c2 : Nat) (xs ys : List Int) (h : RI R .u8 a n xs) (h2 : RI R .u8 b m ys) (hn : n ≤ 1000000000000) (hm : m ≤ 1000000000000) :
    RetP P 23 [.slice a n cap, .slice b m c2] R fun _ v => ∃ r, v = .bool r ∧ (r = true ↔ xs = ys) := by
  subst hP
  have hl := h.len
  have hl2 := h2.len
  refine retP_vc (fz := []) Try.func23 rfl (by decide) rfl ok23 ?_
  intro P bin cmp cnv neg com bnot beq ofN toN at_ sub_ scmp cat sget ssz ssub elem fld_ hP hA
  conv => cbv
  have o := ofN_ hA n
  have o2 := ofN_ hA m
  by_cases h0 : n = m
  case neg =>
    refine br_t (by rw [o, o2, cmp_neq hA]; simp; omega) ?_
    conv => cbv
    intro ρ R'' _ _ _
    exact ⟨_, rfl, by simp; intro hx; rw [hx] at hl; omega⟩
  refine br_f (by rw [o, o2, cmp_neq hA]; simp; omega) ?_
  conv => cbv
  refine ⟨Int, fun x => ⟨[(5, .v (.int .i64 x)), (0, .v (.slice a n cap)), (1, .v (.slice b m c2))], R, [], 0, []⟩,
    fun k x => ∃ i : Nat, x = i ∧ i ≤ n ∧ k = n - i ∧ xs.take i = ys.take i, ⟨n, 0, ⟨⟨rfl, rfl, rfl, trivial⟩, rfl, trivial, rfl, .refl _⟩, 0, rfl, by omega, rfl, rfl⟩, ?_⟩
  rintro k x ⟨i, hx, hi, hk, ht⟩
  conv => cbv
  by_cases hlt : i < n
  · refine br_t (by rw [o, cmp_lss hA]; simp; omega) ?_
    conv => cbv
    refine ⟨[0, 1, 2, 3, 4, 5, 6, 7, 8], [], mix hP, by kernel_rfl, ?_⟩
    conv => cbv
    refine ix_u8 hA h i hx (by omega) ?_
    refine ld_u8 hA h (by omega) (by omega) ?_
    intro c hc c0 c1
    conv => cbv
    refine ix_u8 hA h2 i hx (by omega) ?_
    refine ld_u8 hA h2 (by omega) (by omega) ?_
    intro d hd d0 d1
    conv => cbv
    have hi1 : i < xs.length := by omega
    have hi2 : i < ys.length := by omega
    rw [hx, Int.toNat_natCast, List.getD_eq_getElem?_getD, List.getElem?_eq_getElem hi1] at hc
    rw [hx, Int.toNat_natCast, List.getD_eq_getElem?_getD, List.getElem?_eq_getElem hi2] at hd
    simp only [Option.getD_some] at hc hd
    by_cases he : c = d
    · refine br_f (by rw [cmp_neq hA, he]; simp) ?_
      conv => cbv
      refine ⟨n - (i + 1), x + 1, by omega, ⟨⟨?_, rfl, rfl, trivial⟩, rfl, trivial, rfl, .refl _⟩, i + 1, by show x + 1 = ((i + 1 : Nat) : Int); omega, by omega, rfl, ?_⟩
      · rw [add_i64 hA (by omega)]; rfl
      · rw [List.take_add_one, List.take_add_one, ht, List.getElem?_eq_getElem hi1, List.getElem?_eq_getElem hi2, ← hc, ← hd, he]
    · refine br_t (by rw [cmp_neq hA]; simpa using he) ?_
      conv => cbv
      intro ρ R'' _ _ _
      refine ⟨_, rfl, by simp; intro hxy; subst hxy; exact he (by rw [hc, hd])⟩
  · refine br_f (by rw [o, cmp_lss hA]; simp; omega) ?_
    conv => cbv
    intro ρ R'' _ _ _
    refine ⟨_, rfl, ?_⟩
    have : i = n := by omega
    subst this
    rw [List.take_of_length_le (by omega), List.take_of_length_le (by omega)] at ht
    simp [ht]

set_option maxRecDepth 100000 in
theorem sameS {P : Program} (hP : P = Try.prog) (R : RO) (a b : Option Addr) (n m cap c2 : Nat) (xs ys : List Int) (h : RI R .u8 a n xs) (h2 : RI R .u8 b m ys) (hn : n ≤ 1000000000000) (hm : m ≤ 1000000000000) :
    RetP P 59 [.slice a n cap, .slice b m c2] R fun _ v => ∃ r, v = .bool r ∧ (r = true ↔ xs = ys) := by
  subst hP
  have hl := h.len
  have hl2 := h2.len
  refine retP_vc (fz := []) Try.func59 rfl (by decide) rfl ok59 ?_
  intro P bin cmp cnv neg com bnot beq ofN toN at_ sub_ scmp cat sget ssz ssub elem fld_ hP hA
  conv => cbv
  have o := ofN_ hA n
  have o2 := ofN_ hA m
  by_cases h0 : n = m
  case neg =>
    refine br_t (by rw [o, o2, cmp_neq hA]; simp; omega) ?_
    conv => cbv
    intro ρ R'' _ _ _
    exact ⟨_, rfl, by simp; intro hx; rw [hx] at hl; omega⟩
  refine br_f (by rw [o, o2, cmp_neq hA]; simp; omega) ?_
  conv => cbv
  refine ⟨Int, fun x => ⟨[(5, .v (.int .i64 x)), (0, .v (.slice a n cap)), (1, .v (.slice b m c2))], R, [], 0, []⟩,
    fun k x => ∃ i : Nat, x = i ∧ i ≤ n ∧ k = n - i ∧ xs.take i = ys.take i, ⟨n, 0, ⟨⟨rfl, rfl, rfl, trivial⟩, rfl, trivial, rfl, .refl _⟩, 0, rfl, by omega, rfl, rfl⟩, ?_⟩
  rintro k x ⟨i, hx, hi, hk, ht⟩
  conv => cbv
  by_cases hlt : i < n
  · refine br_t (by rw [o, cmp_lss hA]; simp; omega) ?_
    conv => cbv
    refine ⟨[0, 1, 2, 3, 4, 5, 6, 7, 8], [], mix hP, by kernel_rfl, ?_⟩
    conv => cbv
    refine ix_u8 hA h i hx (by omega) ?_
    refine ld_u8 hA h (by omega) (by omega) ?_
    intro c hc c0 c1
    conv => cbv
    refine ix_u8 hA h2 i hx (by omega) ?_
    refine ld_u8 hA h2 (by omega) (by omega) ?_
    intro d hd d0 d1
    conv => cbv
    have hi1 : i < xs.length := by omega
    have hi2 : i < ys.length := by omega
    rw [hx, Int.toNat_natCast, List.getD_eq_getElem?_getD, List.getElem?_eq_getElem hi1] at hc
    rw [hx, Int.toNat_natCast, List.getD_eq_getElem?_getD, List.getElem?_eq_getElem hi2] at hd
    simp only [Option.getD_some] at hc hd
    by_cases he : c = d
    · refine br_f (by rw [cmp_neq hA, he]; simp) ?_
      conv => cbv
      refine ⟨n - (i + 1), x + 1, by omega, ⟨⟨?_, rfl, rfl, trivial⟩, rfl, trivial, rfl, .refl _⟩, i + 1, by show x + 1 = ((i + 1 : Nat) : Int); omega, by omega, rfl, ?_⟩
      · rw [add_i64 hA (by omega)]; rfl
      · rw [List.take_add_one, List.take_add_one, ht, List.getElem?_eq_getElem hi1, List.getElem?_eq_getElem hi2, ← hc, ← hd, he]
    · refine br_t (by rw [cmp_neq hA]; simpa using he) ?_
      conv => cbv
      intro ρ R'' _ _ _
      refine ⟨_, rfl, by simp; intro hxy; subst hxy; exact he (by rw [hc, hd])⟩
  · refine br_f (by rw [o, cmp_lss hA]; simp; omega) ?_
    conv => cbv
    intro ρ R'' _ _ _
    refine ⟨_, rfl, ?_⟩
    have : i = n := by omega
    subst this
    rw [List.take_of_length_le (by omega), List.take_of_length_le (by omega)] at ht
    simp [ht]

def zero32 : List Int := List.replicate 32 0

set_option maxRecDepth 100000 in
theorem isNone {P : Program} (hP : P = Try.prog) (R : RO) (hash : List Int) (idx : Int) (hh : hash.length = 32) :
    RetP P 88 [.agg (ints .u8 hash ++ [Value.int .u32 idx]).toArray] R fun _ v => ∃ r, v = .bool r ∧ (r = true ↔ idx = 4294967295 ∧ hash = zero32) := by
  subst hP
  obtain ⟨e0, e1, e2, e3, e4, e5, e6, e7, e8, e9, e10, e11, e12, e13, e14, e15, e16, e17, e18, e19, e20, e21, e22, e23, e24, e25, e26, e27, e28, e29, e30, e31, rfl⟩ := l32 hh
  clear hh
  refine retP_vc (fz := []) Try.func88 rfl (by decide) rfl ok88 ?_
  intro P bin cmp cnv neg com bnot beq ofN toN at_ sub_ scmp cat sget ssz ssub elem fld_ hP hA
  conv => cbv
  by_cases h1 : idx = 4294967295
  case neg =>
    have c1 : cmp .eql idx 4294967295 = false := by rw [cmp_eql hA]; simp; omega
    simp only [c1]
    conv => cbv
    intro ρ R'' _ _ _
    exact ⟨_, rfl, ⟨fun h => (by cases h), fun h => absurd h.1 h1⟩⟩
  have c1 : cmp .eql idx 4294967295 = true := by rw [cmp_eql hA]; simp; omega
  simp only [c1]
  conv => cbv
  refine raw_eql rfl (by rw [hP]; kernel_rfl) (by rw [hP]; exact ty60) rfl (by rw [hP]; exact Tytx.ty5) rfl rfl [e0, e1, e2, e3, e4, e5, e6, e7, e8, e9, e10, e11, e12, e13, e14, e15, e16, e17, e18, e19, e20, e21, e22, e23, e24, e25, e26, e27, e28, e29, e30, e31] zero32 rfl rfl rfl rfl ?_
  intro b hb
  conv => cbv
  intro ρ R'' _ _ _
  exact ⟨_, rfl, ⟨fun h => ⟨h1, hb.1 h⟩, fun h => hb.2 h.2⟩⟩

theorem take_pre {xs ys : List Int} (h : ys.length ≤ xs.length) : ((xs.drop 0).take (ys.length - 0)) = xs.take ys.length := by simp

set_option maxRecDepth 100000 in
theorem hasPrefix {P : Program} (hP : P = Try.prog) (R : RO) (a b : Option Addr) (n m cap c2 : Nat) (xs ys : List Int) (h : RI R .u8 a n xs) (h2 : RI R .u8 b m ys) (hc : n ≤ cap) :
    RetP P 90 [.slice a n cap, .slice b m c2] R fun _ v => ∃ r, v = .bool r ∧ (r = true ↔ ys.length ≤ xs.length ∧ xs.take ys.length = ys) := by
  subst hP
  have hl := h.len
  have hl2 := h2.len
  refine retP_vc (fz := []) Try.func90 rfl (by decide) rfl ok90 ?_
  intro P bin cmp cnv neg com bnot beq ofN toN at_ sub_ scmp cat sget ssz ssub elem fld_ hP hA
  conv => cbv
  have o := ofN_ hA n
  have o2 := ofN_ hA m
  by_cases h0 : m ≤ n
  case neg =>
    have c1 : cmp .geq (ofN n) (ofN m) = false := by rw [o, o2, cmp_geq hA]; simp; omega
    simp only [c1]
    conv => cbv
    intro ρ R'' _ _ _
    exact ⟨_, rfl, ⟨fun h => (by cases h), fun h => absurd h.1 (by omega)⟩⟩
  have c1 : cmp .geq (ofN n) (ofN m) = true := by rw [o, o2, cmp_geq hA]; simp; omega
  simp only [c1]
  conv => cbv
  refine ⟨0, m, rfl, by rw [o2]; rfl, by omega, by omega, ?_⟩
  intro a' n' c' hn' hc' ha'
  conv => cbv
  have h3 := h.part' (l := 0) (m := m) (by omega) (by omega) hn' hc ha'
  refine callP_in (fz := []) hP hA Try.func115 rfl (by decide) rfl ok115 (by simp [labL, lab]) ?_
  conv => cbv
  refine RI.str h3 fun b1 hb1 => ?_
  conv => cbv
  refine RI.str h2 fun b2 hb2 => ?_
  conv => cbv
  intro ρ R'' _ _ _
  refine ⟨_, rfl, ?_⟩
  have e := scmp_eql hA hb1 hb2
  rw [List.drop_zero, Nat.sub_zero, hl2] at e
  rw [e]
  simp
  omega
end Go.Proofs.Ytclkimgpdnldnaa.Tx
