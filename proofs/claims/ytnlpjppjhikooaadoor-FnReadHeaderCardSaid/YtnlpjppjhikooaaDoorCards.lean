/-
  DERIVED. GIVEN WITH THE SEED: THE CARDS: each row of YtnlpjppjhikooaaDoorRows.lean that lists a variable, with what it lists TIED to the program's text (the seventh form; the later family's looks); each row that meets fmt, with fmt's text TOLD by the authors' own Lean function (tested against real Go, not proved from fmt's source: count such statements apart). THE CARD IS WHAT COUNTS. Prove the row's statement (the work); the ties are given (YtnlpjppjhikooaaDoorTie.lean); close each card by the builder's one call (the guide's Derived/Test/ToyasCard.lean, 'card_holds'). Laid BY PROGRAM, IN A SANDBOX (cutbox-door.mjs). By AI agents, Wed Nov 11 2026. No macro, syntax, notation, axiom, sorry.
-/
import Derived.Test.YtnlpjppjhikooaaDoorRows
import GoSem.ClaimSeven
namespace Go.Proofs.YtnlpjppjhikooaaDoor
namespace Rows

/-- THE TIED CARD OF 'laws.FnReadBech32Long'. -/
def fnReadBech32LongCard : Claim7 := { stood := { row := fnReadBech32LongRow, standIns := [], harness := (true, "7f16362eb5ebc3614433597c09d71ef29bd97c8fd55358f13834338d5589ab92"), looks := true }, kinds := [], alts := [], laidByText := true, laidKinds := [.data], laidTests := true, laidLooks := .later }
def FnReadBech32LongCardSaid : Prop := Claim7.holds Tryd.pinned (.plain (OpenSpec.ofChange fnReadBech32LongSpec)) fnReadBech32LongCard

/-- THE TIED CARD OF 'laws.FnBase58'. -/
def fnBase58Card : Claim7 := { stood := { row := fnBase58Row, standIns := [], harness := (true, "7f16362eb5ebc3614433597c09d71ef29bd97c8fd55358f13834338d5589ab92"), looks := true }, kinds := [], alts := [], laidByText := true, laidKinds := [.data], laidTests := true, laidLooks := .later }
def FnBase58CardSaid : Prop := Claim7.holds Tryd.pinned (.plain (OpenSpec.ofChange fnBase58Spec)) fnBase58Card

/-- THE TIED CARD OF 'laws.FnVarInt'. -/
def fnVarIntCard : Claim7 := { stood := { row := fnVarIntRow, standIns := [], harness := (true, "7f16362eb5ebc3614433597c09d71ef29bd97c8fd55358f13834338d5589ab92"), looks := true }, kinds := [], alts := [], laidByText := true, laidKinds := [.sentinel, .sentinel, .sentinel], laidTests := true, laidLooks := .later }
def FnVarIntCardSaid : Prop := Claim7.holds Tryd.pinned (.plain (OpenSpec.ofChange fnVarIntSpec)) fnVarIntCard

/-- THE TIED CARD OF 'laws.FnReadAddress58'. -/
def fnReadAddress58Card : Claim7 := { stood := { row := fnReadAddress58Row, standIns := [], harness := (true, "7f16362eb5ebc3614433597c09d71ef29bd97c8fd55358f13834338d5589ab92"), looks := true }, kinds := [], alts := [], laidByText := true, laidKinds := [.data, .sentinel, .sentinel], laidTests := true, laidLooks := .later }
def FnReadAddress58CardSaid : Prop := Claim7.holds Tryd.pinned (.plain (OpenSpec.ofChange fnReadAddress58Spec)) fnReadAddress58Card

/-- THE TIED CARD OF 'laws.FnReadHeader'. -/
def fnReadHeaderCard : Claim7 := { stood := { row := fnReadHeaderRow, standIns := [], harness := (true, "7f16362eb5ebc3614433597c09d71ef29bd97c8fd55358f13834338d5589ab92"), looks := true }, kinds := [], alts := [], laidByText := true, laidKinds := [.sentinel, .sentinel, .sentinel], laidTests := true, laidLooks := .later }
def FnReadHeaderCardSaid : Prop := Claim7.holds Tryd.pinned (.plain (OpenSpec.ofChange fnReadHeaderSpec)) fnReadHeaderCard

/-- THE TIED CARD OF 'laws.FnReadVarBytes'. -/
def fnReadVarBytesCard : Claim7 := { stood := { row := fnReadVarBytesRow, standIns := [], harness := (true, "7f16362eb5ebc3614433597c09d71ef29bd97c8fd55358f13834338d5589ab92"), looks := true }, kinds := [], alts := [], laidByText := true, laidKinds := [.sentinel, .sentinel, .sentinel], laidTests := true, laidLooks := .later }
def FnReadVarBytesCardSaid : Prop := Claim7.holds Tryd.pinned (.plain (OpenSpec.ofChange fnReadVarBytesSpec)) fnReadVarBytesCard

/-- THE SECOND FORM's CARD OF 'laws.FnReadBech32Long'. -/
def fnReadBech32LongUptoCard : Claim7 := { stood := { row := fnReadBech32LongUptoRow, standIns := [], harness := (true, "7f16362eb5ebc3614433597c09d71ef29bd97c8fd55358f13834338d5589ab92"), looks := true }, kinds := [], alts := [], laidByText := true, laidKinds := [.data], laidTests := true, laidLooks := .later }
def FnReadBech32LongUptoCardSaid : Prop := Claim7.holds Tryd.pinned (.plain (OpenSpec.upto fnReadBech32LongSpec)) fnReadBech32LongUptoCard

/-- THE SECOND FORM's CARD OF 'laws.FnBase58'. -/
def fnBase58UptoCard : Claim7 := { stood := { row := fnBase58UptoRow, standIns := [], harness := (true, "7f16362eb5ebc3614433597c09d71ef29bd97c8fd55358f13834338d5589ab92"), looks := true }, kinds := [], alts := [], laidByText := true, laidKinds := [.data], laidTests := true, laidLooks := .later }
def FnBase58UptoCardSaid : Prop := Claim7.holds Tryd.pinned (.plain (OpenSpec.upto fnBase58Spec)) fnBase58UptoCard

/-- THE SECOND FORM's CARD OF 'laws.FnVarInt'. -/
def fnVarIntUptoCard : Claim7 := { stood := { row := fnVarIntUptoRow, standIns := [], harness := (true, "7f16362eb5ebc3614433597c09d71ef29bd97c8fd55358f13834338d5589ab92"), looks := true }, kinds := [], alts := [], laidByText := true, laidKinds := [.sentinel, .sentinel, .sentinel], laidTests := true, laidLooks := .later }
def FnVarIntUptoCardSaid : Prop := Claim7.holds Tryd.pinned (.plain (OpenSpec.upto fnVarIntSpec)) fnVarIntUptoCard

/-- THE SECOND FORM's CARD OF 'laws.FnReadAddress58'. -/
def fnReadAddress58UptoCard : Claim7 := { stood := { row := fnReadAddress58UptoRow, standIns := [], harness := (true, "7f16362eb5ebc3614433597c09d71ef29bd97c8fd55358f13834338d5589ab92"), looks := true }, kinds := [], alts := [], laidByText := true, laidKinds := [.data, .sentinel, .sentinel], laidTests := true, laidLooks := .later }
def FnReadAddress58UptoCardSaid : Prop := Claim7.holds Tryd.pinned (.plain (OpenSpec.upto fnReadAddress58Spec)) fnReadAddress58UptoCard

/-- THE SECOND FORM's CARD OF 'laws.FnReadHeader'. -/
def fnReadHeaderUptoCard : Claim7 := { stood := { row := fnReadHeaderUptoRow, standIns := [], harness := (true, "7f16362eb5ebc3614433597c09d71ef29bd97c8fd55358f13834338d5589ab92"), looks := true }, kinds := [], alts := [], laidByText := true, laidKinds := [.sentinel, .sentinel, .sentinel], laidTests := true, laidLooks := .later }
def FnReadHeaderUptoCardSaid : Prop := Claim7.holds Tryd.pinned (.plain (OpenSpec.upto fnReadHeaderSpec)) fnReadHeaderUptoCard

/-- THE SECOND FORM's CARD OF 'laws.FnReadVarBytes'. -/
def fnReadVarBytesUptoCard : Claim7 := { stood := { row := fnReadVarBytesUptoRow, standIns := [], harness := (true, "7f16362eb5ebc3614433597c09d71ef29bd97c8fd55358f13834338d5589ab92"), looks := true }, kinds := [], alts := [], laidByText := true, laidKinds := [.sentinel, .sentinel, .sentinel], laidTests := true, laidLooks := .later }
def FnReadVarBytesUptoCardSaid : Prop := Claim7.holds Tryd.pinned (.plain (OpenSpec.upto fnReadVarBytesSpec)) fnReadVarBytesUptoCard
end Rows
end Go.Proofs.YtnlpjppjhikooaaDoor
