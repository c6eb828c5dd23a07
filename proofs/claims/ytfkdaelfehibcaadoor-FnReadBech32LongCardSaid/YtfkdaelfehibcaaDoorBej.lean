/- Texts of bech32: the law. -/
import Derived.Test.YtfkdaelfehibcaaDoorBei
import Derived.Test.YtfkdaelfehibcaaDoorTybi
set_option linter.unusedSimpArgs false
set_option linter.unusedVariables false
namespace Go.Proofs.YtfkdaelfehibcaaDoor.Be
open Go Go.Se Go.Proofs Go.Proofs.YtfkdaelfehibcaaDoor.Tybi

set_option maxRecDepth 100000 in
theorem sameL {P : Program} (hP : P = Tryd.prog) (R : RO) (a b : Option Addr) (n m cap c2 : Nat) (xs ys : List Int) (h : RI R .u8 a n xs) (h2 : RI R .u8 b m ys) (hn : n ≤ 1000000000000) (hm : m ≤ 1000000000000) :
    RetP P 6 [.slice a n cap, .slice b m c2] R fun _ v => ∃ r, v = .bool r ∧ (r = true ↔ xs = ys) := by
  subst hP
  have hl := h.len
  have hl2 := h2.len
  refine retP_vc (fz := []) Tryd.func6 rfl (by decide) rfl ok6 ?_
  intro P bin cmp cnv neg com bnot beq ofN toN at_ sub_ scmp cat sget ssz ssub elem fld_ hP hA
  conv => cbv
  have o := ofN_ hA n
  have o2 := ofN_ hA m
  by_cases h0 : n = m
  case neg =>
    refine br_t (by rw [o, o2, cmp_neq hA]; simp; omega) ?_
    conv => cbv
    intro ρ R'' _ _ _
    exact ⟨_, rfl, by simp; intro hx; rw [hx] at hl; omega⟩
  refine br_f (by rw [o, o2, cmp_neq hA]; simp; omega) ?_
  conv => cbv
  refine ⟨Int, fun x => ⟨[(5, .v (.int .i64 x)), (0, .v (.slice a n cap)), (1, .v (.slice b m c2))], R, [], 0, []⟩,
    fun k x => ∃ i : Nat, x = i ∧ i ≤ n ∧ k = n - i ∧ xs.take i = ys.take i, ⟨n, 0, ⟨⟨rfl, rfl, rfl, trivial⟩, rfl, trivial, rfl, .refl _⟩, 0, rfl, by omega, rfl, rfl⟩, ?_⟩
  rintro k x ⟨i, hx, hi, hk, ht⟩
  conv => cbv
  by_cases hlt : i < n
  · refine br_t (by rw [o, cmp_lss hA]; simp; omega) ?_
    conv => cbv
    refine ⟨[0, 1, 2, 3, 4, 5, 6, 7, 8], [], mix hP, by kernel_rfl, ?_⟩
    conv => cbv
    refine ix_u8 hA h i hx (by omega) ?_
    refine ld_u8 hA h (by omega) (by omega) ?_
    intro c hc c0 c1
    conv => cbv
    refine ix_u8 hA h2 i hx (by omega) ?_
    refine ld_u8 hA h2 (by omega) (by omega) ?_
    intro d hd d0 d1
    conv => cbv
    have hi1 : i < xs.length := by omega
    have hi2 : i < ys.length := by omega
    rw [hx, Int.toNat_natCast, List.getD_eq_getElem?_getD, List.getElem?_eq_getElem hi1] at hc
    rw [hx, Int.toNat_natCast, List.getD_eq_getElem?_getD, List.getElem?_eq_getElem hi2] at hd
    simp only [Option.getD_some] at hc hd
    by_cases he : c = d
    · refine br_f (by rw [cmp_neq hA, he]; simp) ?_
      conv => cbv
      refine ⟨n - (i + 1), x + 1, by omega, ⟨⟨?_, rfl, rfl, trivial⟩, rfl, trivial, rfl, .refl _⟩, i + 1, by show x + 1 = ((i + 1 : Nat) : Int); omega, by omega, rfl, ?_⟩
      · rw [add_i64 hA (by omega)]; rfl
      · rw [List.take_add_one, List.take_add_one, ht, List.getElem?_eq_getElem hi1, List.getElem?_eq_getElem hi2, ← hc, ← hd, he]
    · refine br_t (by rw [cmp_neq hA]; simpa using he) ?_
      conv => cbv
      intro ρ R'' _ _ _
      refine ⟨_, rfl, by simp; intro hxy; subst hxy; exact he (by rw [hc, hd])⟩
  · refine br_f (by rw [o, cmp_lss hA]; simp; omega) ?_
    conv => cbv
    intro ρ R'' _ _ _
    refine ⟨_, rfl, ?_⟩
    have : i = n := by omega
    subst this
    rw [List.take_of_length_le (by omega), List.take_of_length_le (by omega)] at ht
    simp [ht]


def OutL (xs : List Int) (R' : RO) (r : Value) : Prop :=
  ∃ h a n c k, r = .tuple #[.string h, .slice a n c, .int .i64 k] ∧ ((k = 0 ∧ ∃ hs ds, Fm xs hs ds ∧ Sm hs ds ∧ SB h hs ∧ RI R' .u8 a n (ds.take (ds.length - 6)) ∧ n ≤ 2000) ∨ (k = 1 ∧ ∀ hs ds, Fm xs hs ds → ¬ Sm hs ds))

set_option maxRecDepth 100000 in
set_option maxHeartbeats 2000000 in
theorem longI {P : Program} (hP : P = Tryd.prog) (R : RO) (ga : Option Addr) (g5 cg : Nat) (hg : Gen R ga g5 cg) (hg5 : g5 = 5) (hgs : ga.isSome = true) (x : ByteArray) (xs : List Int) (hx : SB x xs) (hl : xs.length ≤ 2000) :
    RetP P 5 [.string x] R fun R' r => OutL xs R' r := by
  subst hP
  refine retP_vc (fz := []) Tryd.func5 rfl (by decide) rfl ok5 ?_
  intro P bin cmp cnv neg com bnot beq ofN toN at_ sub_ scmp cat sget ssz ssub elem fld_ hP hA
  conv => cbv
  have nt : bnot true = false := by rw [bnot_ hA]; rfl
  have nf : bnot false = true := by rw [bnot_ hA]; rfl
  refine callP_in (fz := []) hP hA Tryd.func12 rfl (by decide) rfl ok12 (by simp [labL, lab]) ?_
  conv => cbv
  refine (decodeI hP R ga g5 cg hg hg5 hgs x xs hx hl).callP rfl ?_
  rintro R1 _ hR1 ⟨h, a, n, c, v, er, rfl, hcase⟩
  conv => cbv
  rcases hcase with ⟨rfl, hs, ds, hfm, hsm, hsb, hri, hn⟩ | ⟨⟨T, u, rfl⟩, hno⟩
  · conv => cbv
    refine br_f (by show bnot true = false; exact nt) ?_
    conv => cbv
    refine callP_in (fz := []) hP hA Tryd.func13 rfl (by decide) rfl ok13 (by simp [labL, lab]) ?_
    conv => cbv
    refine ⟨0, [], _, _, _, n, ints .u8 (ds.take (ds.length - 6)), .own _ 0 _ [] rfl rfl rfl rfl (by decide), .refl _, hri.src, by omega, by omega, ?_⟩
    intro a2 n2 c2 z2 hn2 hz2 hs2
    conv => cbv
    intro ρ R'' hle _ hpr
    have hrl := hri.len
    have hri2 := (hpr _ (List.mem_cons_self ..)).ri (xs := ds.take (ds.length - 6)) (by show n2 = _; omega) hs2 rfl (by show z2 = _; rw [hz2]; rfl) hri.wf
    exact ⟨_, _, _, _, _, rfl, .inl ⟨rfl, hs, ds, hfm, hsm, hsb, hri2, by show n2 ≤ _; omega⟩⟩
  · conv => cbv
    refine br_t (by show bnot false = true; exact nf) ?_
    conv => cbv
    intro ρ R'' hle _ hpr
    exact ⟨_, _, _, _, _, rfl, .inr ⟨rfl, hno⟩⟩


set_option maxRecDepth 100000 in
set_option maxHeartbeats 2000000 in
theorem law {P : Program} (hP : P = Tryd.prog) (R : RO) (ga : Option Addr) (g5 cg : Nat) (hg : Gen R ga g5 cg) (hg5 : g5 = 5) (hgs : ga.isSome = true) (x : ByteArray) :
    RetP P 3 [.string x] R fun _ v => v = .bool true := by
  subst hP
  obtain ⟨xs, hx, _⟩ := sb_of x
  have hsz := hx.size
  refine retP_vc (fz := []) Tryd.func3 rfl (by decide) rfl ok3 ?_
  intro P bin cmp cnv neg com bnot beq ofN toN at_ sub_ scmp cat sget ssz ssub elem fld_ hP hA
  conv => cbv
  have oz : ofN (ssz x) = (xs.length : Int) := by rw [ofN_ hA, ssz_ hA, hsz]
  have nt : bnot true = false := by rw [bnot_ hA]; rfl
  have nf : bnot false = true := by rw [bnot_ hA]; rfl
  have bff : beq false false = true := by rw [beq_ hA]; rfl
  have btt : beq true true = true := by rw [beq_ hA]; rfl
  by_cases g1 : xs.length ≤ 2147483647
  case neg =>
    refine br_t (by rw [oz, cmp_gtr hA]; simp; omega) ?_
    conv => cbv
    intro ρ R'' _ _ _
    rfl
  refine br_f (by rw [oz, cmp_gtr hA]; simp; omega) ?_
  conv => cbv
  by_cases g2 : xs.length ≤ 2000
  case neg =>
    refine br_t (by rw [oz, cmp_gtr hA]; simp; omega) ?_
    conv => cbv
    intro ρ R'' _ _ _
    rfl
  refine br_f (by rw [oz, cmp_gtr hA]; simp; omega) ?_
  conv => cbv
  refine (readS hP R x xs hx g2).callP rfl ?_
  rintro R1 _ hR1 ⟨h, a, n, c, su, ok, rfl, hS⟩
  conv => cbv
  refine (longI hP R1 ga g5 cg (hg.le hR1) hg5 hgs x xs hx g2).callP rfl ?_
  rintro R2 _ hR2 ⟨h2, a2, n2, c2, k, rfl, hI⟩
  conv => cbv
  rcases hS with ⟨rfl, hs, ds, hfm, hsm, hsb, hri, hn, hsu⟩ | ⟨rfl, hno⟩
  · conv => cbv
    by_cases hM : su = 734539939
    · refine br_t (by rw [cmp_eql hA, hM]; rfl) ?_
      conv => cbv
      intro ρ R'' _ _ _
      rfl
    refine br_f (by rw [cmp_eql hA]; exact beq_false_of_ne hM) ?_
    conv => cbv
    rcases hI with ⟨rfl, hs', ds', hfm', hsm', hsb', hri', hn'⟩ | ⟨rfl, hno⟩
    case inr => exact absurd hsm (hno hs ds hfm)
    obtain ⟨rfl, rfl⟩ := hfm.uniq hfm'
    have hk0 : cmp .eql 0 0 = true := by rw [cmp_eql hA]; rfl
    simp (maxSteps := 10000000) only [hk0, btt]
    conv => cbv
    simp (maxSteps := 10000000) only [nt]
    conv => cbv
    have hq : scmp .eql h2 h = true := by rw [scmp_eql hA hsb' hsb]; exact decide_eq_true rfl
    simp (maxSteps := 10000000) only [hq]
    conv => cbv
    refine (sameL hP R2 a2 a n2 n c2 c _ _ hri' (hri.le hR2) (by omega) (by omega)).callQ rfl ?_
    rintro _ ⟨r, rfl, hr⟩
    obtain rfl := hr.2 rfl
    conv => cbv
    intro ρ R'' _ _ _
    rfl
  · conv => cbv
    rcases hI with ⟨rfl, hs', ds', hfm', hsm', hsb', hri', hn'⟩ | ⟨rfl, _⟩
    · exact absurd hsm' (hno hs' ds' hfm')
    have hk1 : cmp .eql 1 0 = false := by rw [cmp_eql hA]; rfl
    simp (maxSteps := 10000000) only [hk1, bff]
    conv => cbv
    simp (maxSteps := 10000000) only [nf]
    conv => cbv
    intro ρ R'' _ _ _
    rfl
end Go.Proofs.YtfkdaelfehibcaaDoor.Be
