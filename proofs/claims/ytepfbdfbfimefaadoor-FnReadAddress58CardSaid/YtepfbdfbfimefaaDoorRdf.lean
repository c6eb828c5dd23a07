/- For every string: the package's reader of addresses of base 58 and the reference read the same: the payload and the version, or that the text is too short or no text of base 58, or that its sum is wrong; longer strings than the statement's bound are let pass. Conditions: none beyond the statement's own. -/
import Derived.Test.YtepfbdfbfimefaaDoorRows
import Derived.Test.YtepfbdfbfimefaaDoorCards
import Derived.Test.YtepfbdfbfimefaaDoorTie
import Derived.Test.YtepfbdfbfimefaaDoorMRde
import Derived.WalkKit
import Derived.ProofKit
import Derived.OpenShut
import Derived.ShutString
import Derived.ChangeOld
import Derived.Below
import Derived.SizedLaws
import Derived.LaidMore
import Derived.LaidLaws
import Derived.LaidHandle
import Derived.Handed
import Derived.SevenTiedAt
set_option linter.unusedVariables false
namespace Go.Proofs.YtepfbdfbfimefaaDoor.fnReadAddress58
open Go.ChangeShapes Go.WideShapes Go.ChangeAt Go.RowKit
open Go.ChangeMaps (open_string shut_string)
theorem own : ownKnob Tryd.prog.godebug = none := by kernel_rfl
theorem door_met (os : Os) (args : Array Value) : laidMetH Tryd.prog Rows.fnReadAddress58Row.laid ((World.doorLaid Tryd.prog 400 os).forCall (fun _ _ => 0) ⟨#[], args, []⟩).memory :=
  laidMetH_of_parts3 (fuel := 8) (laidMet_of_run' 8 (by kernel_rfl) (by kernel_rfl)) (by kernel_rfl) (by kernel_rfl)
set_option maxRecDepth 100000 in
theorem lifted (os : Os) (started : os.Started) (H : Type) (enc : TypeId × Value → H) :
    ReturnsInHanded {} Tryd.checked os 4 .any (fun w args => (Rows.fnReadAddress58Spec.pre enc Tryd.prog Tryd.f4 [] false w args ∧ laidMetH Tryd.prog Rows.fnReadAddress58Row.laid w) ∧ sizedMet enc Tryd.prog Tryd.f4 (OpenSpec.ofChange Rows.fnReadAddress58Spec) false w args) (Rows.fnReadAddress58Spec.post enc Tryd.prog Tryd.f4 false true false false) := by
  refine Go.Proofs.YtepfbdfbfimefaaDoor.Rd.wrap (C := Tryd.checked) (X := fun w _ => laidMetH Tryd.prog Rows.fnReadAddress58Row.laid w) (fun _ _ _ hh h => h.of_heap hh) own started (by kernel_rfl) Tryd.func4
    (ChangeSpec.witness_shaped (enc := enc) (C := Tryd.checked) (os := os) (X := fun w _ => laidMetH Tryd.prog Rows.fnReadAddress58Row.laid w) false (World.doorLaid Tryd.prog 400 os) #[.string ByteArray.empty] 8 rfl (World.shaped_of_RefB (by kernel_rfl) (by kernel_rfl)) (by kernel_rfl) (by kernel_rfl) (by kernel_rfl) (door_met os _)) ?_
  intro W base args ds gs before hSh hval0 hW hcnd hsz0 hL _
  have hval : ∀ (j : Nat) t v, Tryd.f4.params[j]? = some t → args[j]? = some v → Value.okWide Tryd.prog W .any base t v := hval0
  have hW' := hW
  obtain ⟨p, q, hA0, hV, rfl, hfz, hnd⟩ := hW
  have hA : DataW.TrodAll enc Tryd.prog W 0 (fun _ => true) true Tryd.f4.params.toList args.toList ds p := hA0
  rw [Tryd.params4] at hA hval
  obtain ⟨v0, vs0, d0, ds0, p0, q0, hargs, rfl, rfl, h0, r0⟩ := trodAll_cons hA
  obtain ⟨rfl, rfl, rfl⟩ := trodAll_nil r0
  obtain rfl : args = #[v0] := by cases args; simp_all
  obtain ⟨rfl, rfl⟩ := trodVars_none hV
  obtain ⟨a0, rfl, rfl, rfl, y0⟩ := open_string Tryd.underlying9 (hval 0 9 v0 rfl rfl) h0
  obtain ⟨hG, ac, ai, hE⟩ := Rd.all_of rfl hL; obtain ⟨K, hK⟩ := Rd.k_of hSh
  clear hA0 hval0 hsz0
  refine (((Rd.lawB rfl) _ hG ac ai hE K hK a0 y0).walk (w := W) (fun _ _ h => h)).mono fun e W' ⟨he, bel⟩ => ?_
  subst he
  exact ⟨_, rfl, _, _, _, [], _, [], hW', trodAll_mk1 (shut_bool Tryd.underlying4 _), (trodAll_cons_mk (shut_string Tryd.underlying9 y0) trodAll_mk0), rfl, bel.frame _, fun h => by cases h⟩
theorem proved : Rows.FnReadAddress58Said :=
  OpenClaim.holds_of_wide 4 Tryd.f4 rfl rfl rfl rfl rfl rfl rfl ⟨rfl, rfl, rfl, rfl, rfl⟩ rfl rfl rfl rfl rfl (by kernel_rfl) Tryd.func4 (by kernel_rfl)
    (of_decide_eq_true (by kernel_rfl)) (by unfold Func.isWrapper; first | (rw [if_pos (by decide +kernel)]; kernel_rfl) | (rw [if_neg (by decide +kernel)]; exact ⟨rfl, rfl⟩))
    (fun os started H enc _ => lifted os started H enc)
theorem card : Rows.FnReadAddress58CardSaid :=
  Claim7.holds_tied_plain_at .later [] [.data, .sentinel, .sentinel] true (true, "d175297f443ccebff588cd1c794c978c0a043883184a40570294b59c4a7b60b3") true
    proved (fun _ h => by cases h) (by kernel_rfl) (fun _ h => by cases h) fnReadAddress58_row_tie rfl ⟨rfl, rfl⟩ (by kernel_rfl) rfl
    (fun f fn hf hfn => by
      obtain rfl : f = 4 := Option.some.inj ((show Tryd.prog.funcNamed Tryd.f4.name = some 4 by kernel_rfl).symm.trans hf) |>.symm
      obtain rfl : fn = Tryd.f4 := (Option.some.inj (Tryd.func4.symm.trans hfn)).symm
      exact ⟨by kernel_rfl, fun j t ht => by
        rw [Tryd.params4] at ht
        have hm : t ∈ [9] := by simpa using Array.mem_of_getElem? ht
        have hall : ([9].all fun u => !Tryd.prog.wantsStandIn u) = true := by kernel_rfl
        exact (show Tryd.prog.wantsStandIn t = false by simpa using List.all_eq_true.1 hall t hm)⟩)
    (by kernel_rfl)
end Go.Proofs.YtepfbdfbfimefaaDoor.fnReadAddress58
namespace Go.Proofs.YtepfbdfbfimefaaDoor
theorem fnReadAddress58_holds : Rows.FnReadAddress58CardSaid := fnReadAddress58.card
end Go.Proofs.YtepfbdfbfimefaaDoor
