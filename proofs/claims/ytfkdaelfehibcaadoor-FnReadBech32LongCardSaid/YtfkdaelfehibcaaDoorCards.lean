/-
  DERIVED. GIVEN WITH THE SEED: THE CARDS: each row of YtfkdaelfehibcaaDoorRows.lean that lists a variable, with what it lists TIED to the program's text (the seventh form; the later family's looks); each row that meets fmt, with fmt's text TOLD by the authors' own Lean function (tested against real Go, not proved from fmt's source: count such statements apart). THE CARD IS WHAT COUNTS. Prove the row's statement (the work); the ties are given (YtfkdaelfehibcaaDoorTie.lean); close each card by the builder's one call (the guide's Derived/Test/ToyasCard.lean, 'card_holds'). Laid BY PROGRAM, IN A SANDBOX (cutbox-door.mjs). By AI agents, Wed Nov 11 2026. No macro, syntax, notation, axiom, sorry.
-/
import Derived.Test.YtfkdaelfehibcaaDoorRows
import GoSem.ClaimSeven
namespace Go.Proofs.YtfkdaelfehibcaaDoor
namespace Rows

/-- THE TIED CARD OF 'laws.FnReadBech32Long'. -/
def fnReadBech32LongCard : Claim7 := { stood := { row := fnReadBech32LongRow, standIns := [], harness := (true, "0a904fccbe0fabefda6231c1e39c5497fdec8a95de8ec310456126573e085a4d"), looks := false }, kinds := [], alts := [], laidByText := true, laidKinds := [.data], laidTests := true, laidLooks := .later }
def FnReadBech32LongCardSaid : Prop := Claim7.holds Tryd.pinned (.plain (OpenSpec.ofChange fnReadBech32LongSpec)) fnReadBech32LongCard

/-- THE SECOND FORM's CARD OF 'laws.FnReadBech32Long'. -/
def fnReadBech32LongUptoCard : Claim7 := { stood := { row := fnReadBech32LongUptoRow, standIns := [], harness := (true, "0a904fccbe0fabefda6231c1e39c5497fdec8a95de8ec310456126573e085a4d"), looks := false }, kinds := [], alts := [], laidByText := true, laidKinds := [.data], laidTests := true, laidLooks := .later }
def FnReadBech32LongUptoCardSaid : Prop := Claim7.holds Tryd.pinned (.plain (OpenSpec.upto fnReadBech32LongSpec)) fnReadBech32LongUptoCard
end Rows
end Go.Proofs.YtfkdaelfehibcaaDoor
