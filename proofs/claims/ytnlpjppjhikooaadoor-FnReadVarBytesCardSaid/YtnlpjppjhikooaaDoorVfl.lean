/- Bytes with their number ahead: the law. -/
import Derived.Test.YtnlpjppjhikooaaDoorVdc
import Derived.Test.YtnlpjppjhikooaaDoorVrl
import Derived.Test.YtnlpjppjhikooaaDoorTyvf
set_option linter.unusedSimpArgs false
set_option linter.unusedVariables false
namespace Go.Proofs.YtnlpjppjhikooaaDoor.Vf
open Go Go.Se Go.Proofs Go.ChangeShapes Go.Proofs.YtnlpjppjhikooaaDoor.Tyvf


theorem _root_.Go.Proofs.YtnlpjppjhikooaaDoor.Vs.pb_len {xs ys : List Int} {u : Nat} (h : Vs.pb xs = some (ys, u)) : ys.length ≤ xs.length := by
  unfold Vs.pb at h
  split at h
  · cases h
  split at h
  · simp only [Option.some.injEq, Prod.mk.injEq] at h
    rw [← h.1, List.length_take, List.length_drop]
    omega
  · cases h

set_option maxRecDepth 100000 in
theorem law {P : Program} (hP : P = Tryd.prog) (R : RO) (ae au : Addr) (hE : Vd.Ers R ae au) (b : Option Addr) (m c2 : Nat) (ys : List Int) (h2 : RI R .u8 b m ys) (hm : m ≤ 9223372036854775807) (hc : m ≤ c2) :
    RetP P 8 [.slice b m c2] R fun _ v => v = .bool true := by
  subst hP
  refine retP_vc (fz := []) Tryd.func8 rfl (by decide) rfl ok8 ?_
  intro P bin cmp cnv neg com bnot beq ofN toN at_ sub_ scmp cat sget ssz ssub elem fld_ hP hA
  conv => cbv
  have om := ofN_ hA m
  by_cases g1 : m ≤ 2147483647
  case neg =>
    refine br_t (by rw [om, cmp_gtr hA]; simp; omega) ?_
    conv => cbv
    intro ρ R'' _ _ _
    rfl
  refine br_f (by rw [om, cmp_gtr hA]; simp; omega) ?_
  conv => cbv
  by_cases g2 : m ≤ 100000
  case neg =>
    refine br_t (by rw [om, cmp_gtr hA]; simp; omega) ?_
    conv => cbv
    intro ρ R'' _ _ _
    rfl
  refine br_f (by rw [om, cmp_gtr hA]; simp; omega) ?_
  conv => cbv
  have nt : bnot true = false := by rw [bnot_ hA]; rfl
  have nf : bnot false = true := by rw [bnot_ hA]; rfl
  refine (Vs.readS hP R b m c2 ys h2 g2 hc).callP rfl ?_
  rintro R1 r1 hR1 hS
  have hE1 : Vd.Ers R1 ae au := ⟨rcell_le hR1 hE.eof, rcell_le hR1 hE.uex⟩
  rcases hS with ⟨hno, v1, v2, rfl⟩ | ⟨xs, u, ui, a, n, c, hpb, hui, rfl, hri⟩
  · conv => cbv
    refine (Vd.readI hP R1 ae au hE1 b m c2 ys (h2.le hR1) g2 hc).callP rfl ?_
    rintro R2 r2 hR2 hI
    rcases hI with ⟨hno2, w1, w2, rfl⟩ | ⟨xs2, u2, ui2, a2, n2, c2', hpb2, hui2, rfl, hri2⟩
    · conv => cbv
      have q1 : beq (cmp .eql 1 0) false = true := by rw [cmp_eql hA, beq_ hA]; rfl
      simp (maxSteps := 10000000) only [q1]
      conv => cbv
      simp (maxSteps := 10000000) only [nf]
      conv => cbv
      intro ρ R'' _ _ _
      rfl
    · rw [hno] at hpb2
      cases hpb2
  · conv => cbv
    refine (Vd.readI hP R1 ae au hE1 b m c2 ys (h2.le hR1) g2 hc).callP rfl ?_
    rintro R2 r2 hR2 hI
    rcases hI with ⟨hno2, w1, w2, rfl⟩ | ⟨xs2, u2, ui2, a2, n2, c2', hpb2, hui2, rfl, hri2⟩
    · rw [hpb] at hno2
      cases hno2
    · rw [hpb] at hpb2
      simp only [Option.some.injEq, Prod.mk.injEq] at hpb2
      obtain ⟨rfl, rfl⟩ := hpb2
      obtain rfl : ui = ui2 := by omega
      conv => cbv
      have q1 : beq (cmp .eql 0 0) true = true := by rw [cmp_eql hA, beq_ hA]; rfl
      simp (maxSteps := 10000000) only [q1]
      conv => cbv
      simp (maxSteps := 10000000) only [nt]
      conv => cbv
      have hl1 := hri.len
      have hl2 := hri2.len
      have hlu := Vs.pb_len hpb
      have hly := h2.len
      refine (Vr.sameL hP R2 a2 a n2 n c2' c xs xs hri2 (hri.le hR2) (by omega) (by omega)).callQ rfl ?_
      rintro _ ⟨r, rfl, hr⟩
      obtain rfl : r = true := hr.2 rfl
      conv => cbv
      have q3 : cmp .eql ui ui = true := by rw [cmp_eql hA]; simp
      simp (maxSteps := 10000000) only [q3]
      conv => cbv
      intro ρ R'' _ _ _
      rfl
end Go.Proofs.YtnlpjppjhikooaaDoor.Vf
