/- Proved: which opcodes push a number from 0 to 16, and which number: IsSmallInt and AsSmallInt answer as the reference does, at every byte. No condition. -/
import Derived.Test.YtclkimgpdnldnaaPFnSmallIntx1
import Derived.OpenShut
namespace Go.Proofs.Ytclkimgpdnldnaa.Pure
open Go.RowKit Go.Proofs.Ytclkimgpdnldnaa.PFnSmallInt Go.Proofs.YtclkimgpdnldnaaW.PrintWords Go.Proofs.YtclkimgpdnldnaaW.PrintLast

theorem FnSmallInt : laws_FnSmallInt.Pure := by
  intro a0 h
  have hb : 0 ≤ a0 ∧ a0 ≤ 255 := bounds_u8 h
  have hw : wrap64 a0 = a0 := by unfold wrap64; omega
  unfold laws_FnSmallInt.f impl_SmallInt.f spec_Small.f btcdtxscript_IsSmallInt.f btcdtxscript_AsSmallInt.f
  rw [hw]
  by_cases h0 : a0 = 0
  · subst h0; rfl
  · rw [if_neg h0, if_neg h0, if_neg h0]
    by_cases h1 : a0 ≥ 81
    · by_cases h2 : a0 ≤ 96
      · have e1 : wrap64 (wrap64 (a0 - 81) + 1) = a0 - 80 := by unfold wrap64; omega
        have e2 : (a0 - 80) % 256 = a0 - 80 := by omega
        simp [h1, h2, e1, e2]
      · simp [h1, h2]
    · simp [h1]

end Go.Proofs.Ytclkimgpdnldnaa.Pure
