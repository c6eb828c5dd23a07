/- Disassembly: the law. -/
import Derived.Test.YthhlbpahndfdhaaDsz
import Derived.Test.YthhlbpahndfdhaaDsy
import Derived.Test.YthhlbpahndfdhaaTydi
set_option linter.unusedSimpArgs false
set_option linter.unusedVariables false
namespace Go.Proofs.Ythhlbpahndfdhaa.Ds
open Go Go.Se Go.Proofs Go.Proofs.Ythhlbpahndfdhaa.Tydi
open Go.Proofs.Ythhlbpahndfdhaa.Tk (Tok Toks Stuck)

theorem kindN {P : Program} (hP : P = Try.prog) (R : RO) : RetP P 7 [.nilIface] R fun _ r => r = .int .i64 0 := by
  subst hP
  refine retP_vc (fz := []) Try.func7 rfl (by decide) rfl ok7 ?_
  intro P bin cmp cnv neg com bnot beq ofN toN at_ sub_ scmp cat sget ssz ssub elem fld_ hP hA
  conv => cbv
  intro ρ R'' _ _ _
  rfl

theorem kindE {P : Program} (hP : P = Try.prog) (R : RO) (s : ByteArray) : RetP P 7 [.iface 61 (.agg #[.int .i64 27, .string s])] R fun _ r => ∃ k, r = .int .i64 k ∧ k ≠ 0 := by
  subst hP
  refine retP_vc (fz := []) Try.func7 rfl (by decide) rfl ok7 ?_
  intro P bin cmp cnv neg com bnot beq ofN toN at_ sub_ scmp cat sget ssz ssub elem fld_ hP hA
  conv => cbv
  intro ρ R'' _ _ _
  exact ⟨_, rfl, by rw [add_i64 hA (by omega)]; decide⟩

set_option maxRecDepth 100000 in
set_option maxHeartbeats 2000000 in
theorem thinI {P : Program} (hP : P = Try.prog) (R : RO) (a : Option Addr) (n c : Nat) (xs : List Int) (h : RI R .u8 a n xs) (hn : n ≤ 100000) (hc : n ≤ c) :
    RetP P 4 [.slice a n c] R fun _ r => ∃ (l : List Tok) (p : Nat) (bs : ByteArray) (k : Int), r = .tuple #[.string bs, .int .i64 k] ∧ Toks xs l p ∧
      ((p = xs.length ∧ k = 0 ∧ SB bs (disL l true)) ∨ (p < xs.length ∧ Tk.stepT (xs.drop p) = none ∧ k ≠ 0 ∧ SB bs (disL l false))) := by
  subst hP
  refine retP_vc (fz := []) Try.func4 rfl (by decide) rfl ok4 ?_
  intro P bin cmp cnv neg com bnot beq ofN toN at_ sub_ scmp cat sget ssz ssub elem fld_ hP hA
  conv => cbv
  refine (disI hP R a n c xs h hn hc).callQ rfl ?_
  rintro _ ⟨l, p, bs, er, rfl, ht, he⟩
  rcases he with ⟨hpe, rfl, hs⟩ | ⟨hpl, hst, ⟨s, rfl⟩, hs⟩
  · conv => cbv
    refine (kindN hP R).callQ rfl ?_
    rintro _ rfl
    conv => cbv
    intro ρ R'' _ _ _
    exact ⟨l, p, bs, _, rfl, ht, .inl ⟨hpe, rfl, hs⟩⟩
  · conv => cbv
    refine (kindE hP R s).callQ rfl ?_
    rintro _ ⟨k, rfl, hk⟩
    conv => cbv
    intro ρ R'' _ _ _
    exact ⟨l, p, bs, _, rfl, ht, .inr ⟨hpl, hst, hk, hs⟩⟩


set_option maxRecDepth 100000 in
set_option maxHeartbeats 2000000 in
theorem law {P : Program} (hP : P = Try.prog) (R : RO) (a : Option Addr) (n c : Nat) (xs : List Int) (h : RI R .u8 a n xs) (hm : n ≤ 9223372036854775807) (hc : n ≤ c) :
    RetP P 3 [.slice a n c] R fun _ v => v = .bool true := by
  subst hP
  refine retP_vc (fz := []) Try.func3 rfl (by decide) rfl ok3 ?_
  intro P bin cmp cnv neg com bnot beq ofN toN at_ sub_ scmp cat sget ssz ssub elem fld_ hP hA
  conv => cbv
  have o := ofN_ hA n
  have bff : beq false false = true := by rw [beq_ hA]; rfl
  have btt : beq true true = true := by rw [beq_ hA]; rfl
  by_cases g1 : n ≤ 2147483647
  case neg =>
    refine br_t (by rw [o, cmp_gtr hA]; simp; omega) ?_
    conv => cbv
    intro ρ R'' _ _ _
    rfl
  refine br_f (by rw [o, cmp_gtr hA]; simp; omega) ?_
  conv => cbv
  by_cases g2 : n ≤ 10000
  case neg =>
    refine br_t (by rw [o, cmp_gtr hA]; simp; omega) ?_
    conv => cbv
    intro ρ R'' _ _ _
    rfl
  refine br_f (by rw [o, cmp_gtr hA]; simp; omega) ?_
  conv => cbv
  refine (thinI hP R a n c xs h (by omega) hc).callQ rfl ?_
  rintro _ ⟨l, p, bs, k, rfl, ht, he⟩
  conv => cbv
  refine (disS hP R a n c xs h (by omega) hc).callQ rfl ?_
  rintro _ ⟨l2, p2, bs2, ok, rfl, ht2, he2⟩
  have hst1 : Stuck xs p := by
    rcases he with ⟨e, _⟩ | ⟨_, e, _⟩
    · exact Tk.stuck_end e
    · exact .inr e
  have hst2 : Stuck xs p2 := by
    rcases he2 with ⟨e, _⟩ | ⟨_, e, _⟩
    · exact Tk.stuck_end e
    · exact .inr e
  obtain ⟨rfl, rfl⟩ := ht.one hst1 ht2 hst2
  rcases he with ⟨e, rfl, hs⟩ | ⟨e, _, hk, hs⟩
  · rcases he2 with ⟨_, rfl, hs2⟩ | ⟨e2, _⟩
    · conv => cbv
      have hq : scmp .eql bs bs2 = true := by rw [scmp_eql hA hs hs2]; exact decide_eq_true rfl
      simp (maxSteps := 10000000) only [hq]
      conv => cbv
      have hk0 : cmp .eql 0 0 = true := by rw [cmp_eql hA]; rfl
      simp (maxSteps := 10000000) only [hk0, btt]
      conv => cbv
      intro ρ R'' _ _ _
      rfl
    · omega
  · rcases he2 with ⟨e2, _⟩ | ⟨_, _, rfl, hs2⟩
    · omega
    · conv => cbv
      have hq : scmp .eql bs bs2 = true := by rw [scmp_eql hA hs hs2]; exact decide_eq_true rfl
      simp (maxSteps := 10000000) only [hq]
      conv => cbv
      have hk0 : cmp .eql k 0 = false := by rw [cmp_eql hA]; exact beq_false_of_ne hk
      simp (maxSteps := 10000000) only [hk0, bff]
      conv => cbv
      intro ρ R'' _ _ _
      rfl
end Go.Proofs.Ythhlbpahndfdhaa.Ds
