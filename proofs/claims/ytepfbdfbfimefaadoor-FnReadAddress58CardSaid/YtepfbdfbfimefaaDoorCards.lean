/-
  DERIVED. GIVEN WITH THE SEED: THE CARDS: each row of YtepfbdfbfimefaaDoorRows.lean that lists a variable, with what it lists TIED to the program's text (the seventh form; the later family's looks); each row that meets fmt, with fmt's text TOLD by the authors' own Lean function (tested against real Go, not proved from fmt's source: count such statements apart). THE CARD IS WHAT COUNTS. Prove the row's statement (the work); the ties are given (YtepfbdfbfimefaaDoorTie.lean); close each card by the builder's one call (the guide's Derived/Test/ToyasCard.lean, 'card_holds'). Laid BY PROGRAM, IN A SANDBOX (cutbox-door.mjs). By AI agents, Wed Nov 11 2026. No macro, syntax, notation, axiom, sorry.
-/
import Derived.Test.YtepfbdfbfimefaaDoorRows
import GoSem.ClaimSeven
namespace Go.Proofs.YtepfbdfbfimefaaDoor
namespace Rows

/-- THE TIED CARD OF 'laws.FnBase58'. -/
def fnBase58Card : Claim7 := { stood := { row := fnBase58Row, standIns := [], harness := (true, "d175297f443ccebff588cd1c794c978c0a043883184a40570294b59c4a7b60b3"), looks := true }, kinds := [], alts := [], laidByText := true, laidKinds := [.data], laidTests := true, laidLooks := .later }
def FnBase58CardSaid : Prop := Claim7.holds Tryd.pinned (.plain (OpenSpec.ofChange fnBase58Spec)) fnBase58Card

/-- THE TIED CARD OF 'laws.FnReadAddress58'. -/
def fnReadAddress58Card : Claim7 := { stood := { row := fnReadAddress58Row, standIns := [], harness := (true, "d175297f443ccebff588cd1c794c978c0a043883184a40570294b59c4a7b60b3"), looks := true }, kinds := [], alts := [], laidByText := true, laidKinds := [.data, .sentinel, .sentinel], laidTests := true, laidLooks := .later }
def FnReadAddress58CardSaid : Prop := Claim7.holds Tryd.pinned (.plain (OpenSpec.ofChange fnReadAddress58Spec)) fnReadAddress58Card

/-- THE SECOND FORM's CARD OF 'laws.FnBase58'. -/
def fnBase58UptoCard : Claim7 := { stood := { row := fnBase58UptoRow, standIns := [], harness := (true, "d175297f443ccebff588cd1c794c978c0a043883184a40570294b59c4a7b60b3"), looks := true }, kinds := [], alts := [], laidByText := true, laidKinds := [.data], laidTests := true, laidLooks := .later }
def FnBase58UptoCardSaid : Prop := Claim7.holds Tryd.pinned (.plain (OpenSpec.upto fnBase58Spec)) fnBase58UptoCard

/-- THE SECOND FORM's CARD OF 'laws.FnReadAddress58'. -/
def fnReadAddress58UptoCard : Claim7 := { stood := { row := fnReadAddress58UptoRow, standIns := [], harness := (true, "d175297f443ccebff588cd1c794c978c0a043883184a40570294b59c4a7b60b3"), looks := true }, kinds := [], alts := [], laidByText := true, laidKinds := [.data, .sentinel, .sentinel], laidTests := true, laidLooks := .later }
def FnReadAddress58UptoCardSaid : Prop := Claim7.holds Tryd.pinned (.plain (OpenSpec.upto fnReadAddress58Spec)) fnReadAddress58UptoCard
end Rows
end Go.Proofs.YtepfbdfbfimefaaDoor
