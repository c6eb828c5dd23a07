/- The sizes of a transaction are those of its bytes: the law. -/
import Derived.Test.YtclkimgpdnldnaaTxw2
set_option linter.unusedSimpArgs false
set_option linter.unusedVariables false
namespace Go.Proofs.Ytclkimgpdnldnaa.Tx
open Go Go.Se Go.Proofs Go.Proofs.Ytclkimgpdnldnaa.Tytb


theorem TxAt.hashes {R : RO} {cs : List Value} {g : GTx} (h : TxAt R cs g) : ∀ x ∈ g.ins, x.hash.length = 32 := fun x hx => by
  obtain ⟨a, n, c, a2, n2, cc, -, -, -, h3, -⟩ := h
  obtain ⟨i, hi, rfl⟩ := List.getElem_of_mem hx
  obtain ⟨ad, cs, -, -, -, b, m, d, b2, m2, d2, -, g0, -⟩ := h3.at_ i g.ins[i] (List.getElem?_eq_getElem hi)
  exact g0

set_option maxRecDepth 100000 in
theorem strip {P : Program} (hP : P = Try.prog) (R : RO) (v : Value) (g : GTx) (h : PAt 4 MsgAt R [v] g) (hz : tsz g ≤ 1000000) : RetP P 63 [v] R fun _ x => ∃ r : Int, x = .int .i64 r ∧ r = (bsz g : Nat) := by
  subst hP
  have hh := h
  obtain ⟨ad, ds, hv, -⟩ := h
  simp only [List.cons.injEq, and_true] at hv
  subst hv
  refine retP_vc (fz := []) Try.func63 rfl (by decide) rfl ok63 ?_
  intro P bin cmp cnv neg com bnot beq ofN toN at_ sub_ scmp cat sget ssz ssub elem fld_ hP hA
  conv => cbv
  refine (baseSize hP R _ _ hh hz).callQ rfl ?_
  rintro _ ⟨s, rfl, hs⟩
  conv => cbv
  intro ρ R'' _ _ _
  exact ⟨s, rfl, hs⟩

set_option maxRecDepth 100000 in
theorem txSizes {P : Program} (hP : P = Try.prog) (R : RO) (cs : List Value) (g : GTx) (h : TxAt R cs g) (hz : tsz g ≤ 1000000) :
    RetP P 26 [.agg cs.toArray] R fun _ x => ∃ r s : Int, x = .tuple #[.int .i64 r, .int .i64 s] ∧ r = (bsz g : Nat) ∧ s = (fsz g : Nat) := by
  subst hP
  have hh := h
  obtain ⟨a, n, c, a2, n2, cc, rfl, -⟩ := h
  refine retP_vc (fz := []) Try.func26 rfl (by decide) rfl ok26 ?_
  intro P bin cmp cnv neg com bnot beq ofN toN at_ sub_ scmp cat sget ssz ssub elem fld_ hP hA
  conv => cbv
  refine (txOf hP R _ g hh hz).callP rfl ?_
  intro R1 v hR1 hm
  have hm2 := hm
  obtain ⟨ad, ds, hv, -⟩ := hm
  simp only [List.cons.injEq, and_true] at hv
  subst hv
  conv => cbv
  refine (strip hP R1 _ _ hm2 hz).callQ rfl ?_
  rintro _ ⟨r, rfl, hr⟩
  conv => cbv
  refine (fullSize hP R1 _ _ hm2 hz).callQ rfl ?_
  rintro _ ⟨s, rfl, hs⟩
  conv => cbv
  intro ρ R'' _ _ _
  exact ⟨r, s, rfl, hr, hs⟩

set_option maxRecDepth 100000 in
theorem hasWitThin {P : Program} (hP : P = Try.prog) (R : RO) (cs : List Value) (g : GTx) (h : TxAt R cs g) (hz : tsz g ≤ 1000000) : RetP P 28 [.agg cs.toArray] R fun _ x => ∃ r, x = .bool r ∧ r = hw g := by
  subst hP
  have hh := h
  obtain ⟨a, n, c, a2, n2, cc, rfl, -⟩ := h
  refine retP_vc (fz := []) Try.func28 rfl (by decide) rfl ok28 ?_
  intro P bin cmp cnv neg com bnot beq ofN toN at_ sub_ scmp cat sget ssz ssub elem fld_ hP hA
  conv => cbv
  refine (txOf hP R _ g hh hz).callP rfl ?_
  intro R1 v hR1 hm
  have hm2 := hm
  obtain ⟨ad, ds, hv, -⟩ := hm
  simp only [List.cons.injEq, and_true] at hv
  subst hv
  conv => cbv
  refine (hasWitMsg hP R1 _ _ hm2 hz).callQ rfl ?_
  rintro _ ⟨r, rfl, hr⟩
  conv => cbv
  intro ρ R'' _ _ _
  exact ⟨r, rfl, hr⟩

set_option maxRecDepth 100000 in
theorem law9 (R : RO) (cs : List Value) (g : GTx) (h : TxAt R cs g) : RetP Try.prog 9 [.agg cs.toArray] R fun _ v => v = .bool true := by
  have hh := h
  have hhs := h.hashes
  obtain ⟨a, n, c, a2, n2, cc, rfl, -⟩ := h
  refine retP_vc (fz := []) Try.func9 rfl (by decide) rfl ok9 ?_
  intro P bin cmp cnv neg com bnot beq ofN toN at_ sub_ scmp cat sget ssz ssub elem fld_ hP hA
  conv => cbv
  refine (fits2 hP R _ g hh).callQ rfl ?_
  rintro _ ⟨b, rfl⟩
  conv => cbv
  refine br_of (fun _ => ?_) (fun _ => ?_)
  · conv => cbv
    intro ρ R'' _ _ _
    rfl
  conv => cbv
  refine (txSize hP R _ g hh).callQ rfl ?_
  rintro _ ⟨z, rfl, hz⟩
  conv => cbv
  by_cases d1 : z > 100000
  · refine br_t (by rw [cmp_gtr hA]; simp; omega) ?_
    conv => cbv
    intro ρ R'' _ _ _
    rfl
  refine br_f (by rw [cmp_gtr hA]; simp; omega) ?_
  conv => cbv
  have hzs : tsz g ≤ 1000000 := by
    rw [hz] at d1
    unfold capn at d1
    split at d1 <;> omega
  refine (txSizes hP R _ g hh hzs).callQ rfl ?_
  rintro _ ⟨r, s, rfl, hr, hs⟩
  conv => cbv
  refine ⟨[0, 1, 2, 3, 4, 5, 6, 7, 8, 9, 10, 11, 12, 13, 15, 14, 16, 17, 18, 19], [], mix hP, by kernel_rfl, ?_⟩
  conv => cbv
  refine (txBytes hP R _ g hh hzs false).call rfl ?_
  intro b1 m1 d1' y1 rs1 hb1 hs1 ⟨hm1, _⟩
  rw [txB_len g hhs] at hm1
  conv => cbv
  refine ⟨⟨⟨rfl, trivial⟩, hb1.sub⟩, ?_⟩
  have c1 : cmp .eql r (ofN m1) = true := by
    rw [cmp_eql hA, ofN_ hA, hr, hm1]
    simp
  simp only [c1]
  conv => cbv
  refine (txBytes hP R _ g hh hzs true).call rfl ?_
  intro b2 m2 d2 y2 rs2 hb2 hs2 ⟨hm2, _⟩
  rw [txB_len g hhs] at hm2
  conv => cbv
  refine ⟨⟨⟨rfl, trivial⟩, hb2.sub⟩, ?_⟩
  have c2 : cmp .eql s (ofN m2) = true := by
    rw [cmp_eql hA, ofN_ hA, hs, hm2, fsz]
    simp
  simp only [c2]
  conv => cbv
  refine (hasWitThin hP R _ g hh hzs).callQ rfl ?_
  rintro _ ⟨e1, rfl, he1⟩
  conv => cbv
  refine ⟨⟨⟨rfl, trivial⟩, .refl _⟩, ?_⟩
  refine (hasWitness hP R _ g hh).callQ rfl ?_
  rintro _ ⟨e2, rfl, he2⟩
  conv => cbv
  refine ⟨⟨⟨rfl, trivial⟩, .refl _⟩, ?_⟩
  intro ρ R'' _ _ _
  show Value.bool (beq e1 e2) = .bool true
  rw [beq_ hA, he1, he2]
  simp
end Go.Proofs.Ytclkimgpdnldnaa.Tx
