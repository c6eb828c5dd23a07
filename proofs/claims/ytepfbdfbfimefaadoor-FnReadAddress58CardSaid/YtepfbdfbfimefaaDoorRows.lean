/-
  NARROWER THAN 'FOR EVERY INPUT', by the rows' own cells (each row's printed sentence says how): FnBase58: laid · FnReadAddress58: laid.
  DERIVED. THE GIVEN ROWS OF THIS SEAT. 2 by the template 'for every input the law returns true; each argument reads behind the call as it read before'; 0 by the template 'total and deterministic' (their statements: YtepfbdfbfimefaaDoorTotals.lean).
  GIVEN WITH THE SEED: the statements are not yours to turn. If you find one false, say at which input.
  Laid BY PROGRAM, IN A SANDBOX (cutbox-rows.mjs): the forced cells as the released guide's own fill.sh prints them over the translation 512c700cdb95c678… (all of the seat's roots in one cut). By AI agents, Wed Nov 11 2026. No macro, syntax, notation, axiom, sorry.
-/
import Derived.Test.YtepfbdfbfimefaaDoorChecked
import GoSem.Claim
import GoSem.ClaimJoined
import GoSem.ClaimMapViews
import Derived.JoinedTies
import Derived.KernelRfl
namespace Go.Proofs.YtepfbdfbfimefaaDoor
/- THE CELL 'sum', in the pinned program and in every row, IS THE sha256 OF THE DUMP (.gsa) THAT YtepfbdfbfimefaaDoorProg.lean LOADS. Nothing in Lean hashes anything: it is a label: what it is worth is what the hold of that sum in a sandbox is worth. -/
noncomputable def Tryd.pinned : Pinned := { name := "ytepfbdfbfimefaadoor", sum := "512c700cdb95c678292a117f046c02e8cecbd091ee0b36724a2e8f59170037a2", checked := Tryd.checked }
namespace Rows
def none {H : Type} : Left H := { results := [], args := [] }

/- WHAT THE LISTED PACKAGE-LEVEL VARIABLES READ AS WHEN THE CALL BEGINS. Each datum BY PROGRAM (the guide's laid-datum.mjs) off the statement by which the dump's own 'gosem.cut.vars' lays the variable. In a bare row this is a premise. The card (YtepfbdfbfimefaaDoorCards.lean) ties it to the program's text. -/
def laid_pub_mintmark_pub_btcdaddress_base58_b58 {H : Type} : DataW H := .agg [.lit (.int .u8 255), .lit (.int .u8 255), .lit (.int .u8 255), .lit (.int .u8 255), .lit (.int .u8 255), .lit (.int .u8 255), .lit (.int .u8 255), .lit (.int .u8 255), .lit (.int .u8 255), .lit (.int .u8 255), .lit (.int .u8 255), .lit (.int .u8 255), .lit (.int .u8 255), .lit (.int .u8 255), .lit (.int .u8 255), .lit (.int .u8 255), .lit (.int .u8 255), .lit (.int .u8 255), .lit (.int .u8 255), .lit (.int .u8 255), .lit (.int .u8 255), .lit (.int .u8 255), .lit (.int .u8 255), .lit (.int .u8 255), .lit (.int .u8 255), .lit (.int .u8 255), .lit (.int .u8 255), .lit (.int .u8 255), .lit (.int .u8 255), .lit (.int .u8 255), .lit (.int .u8 255), .lit (.int .u8 255), .lit (.int .u8 255), .lit (.int .u8 255), .lit (.int .u8 255), .lit (.int .u8 255), .lit (.int .u8 255), .lit (.int .u8 255), .lit (.int .u8 255), .lit (.int .u8 255), .lit (.int .u8 255), .lit (.int .u8 255), .lit (.int .u8 255), .lit (.int .u8 255), .lit (.int .u8 255), .lit (.int .u8 255), .lit (.int .u8 255), .lit (.int .u8 255), .lit (.int .u8 255), .lit (.int .u8 0), .lit (.int .u8 1), .lit (.int .u8 2), .lit (.int .u8 3), .lit (.int .u8 4), .lit (.int .u8 5), .lit (.int .u8 6), .lit (.int .u8 7), .lit (.int .u8 8), .lit (.int .u8 255), .lit (.int .u8 255), .lit (.int .u8 255), .lit (.int .u8 255), .lit (.int .u8 255), .lit (.int .u8 255), .lit (.int .u8 255), .lit (.int .u8 9), .lit (.int .u8 10), .lit (.int .u8 11), .lit (.int .u8 12), .lit (.int .u8 13), .lit (.int .u8 14), .lit (.int .u8 15), .lit (.int .u8 16), .lit (.int .u8 255), .lit (.int .u8 17), .lit (.int .u8 18), .lit (.int .u8 19), .lit (.int .u8 20), .lit (.int .u8 21), .lit (.int .u8 255), .lit (.int .u8 22), .lit (.int .u8 23), .lit (.int .u8 24), .lit (.int .u8 25), .lit (.int .u8 26), .lit (.int .u8 27), .lit (.int .u8 28), .lit (.int .u8 29), .lit (.int .u8 30), .lit (.int .u8 31), .lit (.int .u8 32), .lit (.int .u8 255), .lit (.int .u8 255), .lit (.int .u8 255), .lit (.int .u8 255), .lit (.int .u8 255), .lit (.int .u8 255), .lit (.int .u8 33), .lit (.int .u8 34), .lit (.int .u8 35), .lit (.int .u8 36), .lit (.int .u8 37), .lit (.int .u8 38), .lit (.int .u8 39), .lit (.int .u8 40), .lit (.int .u8 41), .lit (.int .u8 42), .lit (.int .u8 43), .lit (.int .u8 255), .lit (.int .u8 44), .lit (.int .u8 45), .lit (.int .u8 46), .lit (.int .u8 47), .lit (.int .u8 48), .lit (.int .u8 49), .lit (.int .u8 50), .lit (.int .u8 51), .lit (.int .u8 52), .lit (.int .u8 53), .lit (.int .u8 54), .lit (.int .u8 55), .lit (.int .u8 56), .lit (.int .u8 57), .lit (.int .u8 255), .lit (.int .u8 255), .lit (.int .u8 255), .lit (.int .u8 255), .lit (.int .u8 255), .lit (.int .u8 255), .lit (.int .u8 255), .lit (.int .u8 255), .lit (.int .u8 255), .lit (.int .u8 255), .lit (.int .u8 255), .lit (.int .u8 255), .lit (.int .u8 255), .lit (.int .u8 255), .lit (.int .u8 255), .lit (.int .u8 255), .lit (.int .u8 255), .lit (.int .u8 255), .lit (.int .u8 255), .lit (.int .u8 255), .lit (.int .u8 255), .lit (.int .u8 255), .lit (.int .u8 255), .lit (.int .u8 255), .lit (.int .u8 255), .lit (.int .u8 255), .lit (.int .u8 255), .lit (.int .u8 255), .lit (.int .u8 255), .lit (.int .u8 255), .lit (.int .u8 255), .lit (.int .u8 255), .lit (.int .u8 255), .lit (.int .u8 255), .lit (.int .u8 255), .lit (.int .u8 255), .lit (.int .u8 255), .lit (.int .u8 255), .lit (.int .u8 255), .lit (.int .u8 255), .lit (.int .u8 255), .lit (.int .u8 255), .lit (.int .u8 255), .lit (.int .u8 255), .lit (.int .u8 255), .lit (.int .u8 255), .lit (.int .u8 255), .lit (.int .u8 255), .lit (.int .u8 255), .lit (.int .u8 255), .lit (.int .u8 255), .lit (.int .u8 255), .lit (.int .u8 255), .lit (.int .u8 255), .lit (.int .u8 255), .lit (.int .u8 255), .lit (.int .u8 255), .lit (.int .u8 255), .lit (.int .u8 255), .lit (.int .u8 255), .lit (.int .u8 255), .lit (.int .u8 255), .lit (.int .u8 255), .lit (.int .u8 255), .lit (.int .u8 255), .lit (.int .u8 255), .lit (.int .u8 255), .lit (.int .u8 255), .lit (.int .u8 255), .lit (.int .u8 255), .lit (.int .u8 255), .lit (.int .u8 255), .lit (.int .u8 255), .lit (.int .u8 255), .lit (.int .u8 255), .lit (.int .u8 255), .lit (.int .u8 255), .lit (.int .u8 255), .lit (.int .u8 255), .lit (.int .u8 255), .lit (.int .u8 255), .lit (.int .u8 255), .lit (.int .u8 255), .lit (.int .u8 255), .lit (.int .u8 255), .lit (.int .u8 255), .lit (.int .u8 255), .lit (.int .u8 255), .lit (.int .u8 255), .lit (.int .u8 255), .lit (.int .u8 255), .lit (.int .u8 255), .lit (.int .u8 255), .lit (.int .u8 255), .lit (.int .u8 255), .lit (.int .u8 255), .lit (.int .u8 255), .lit (.int .u8 255), .lit (.int .u8 255), .lit (.int .u8 255), .lit (.int .u8 255), .lit (.int .u8 255), .lit (.int .u8 255), .lit (.int .u8 255), .lit (.int .u8 255), .lit (.int .u8 255), .lit (.int .u8 255), .lit (.int .u8 255), .lit (.int .u8 255), .lit (.int .u8 255), .lit (.int .u8 255), .lit (.int .u8 255), .lit (.int .u8 255), .lit (.int .u8 255), .lit (.int .u8 255), .lit (.int .u8 255), .lit (.int .u8 255), .lit (.int .u8 255), .lit (.int .u8 255), .lit (.int .u8 255), .lit (.int .u8 255), .lit (.int .u8 255), .lit (.int .u8 255), .lit (.int .u8 255), .lit (.int .u8 255), .lit (.int .u8 255), .lit (.int .u8 255), .lit (.int .u8 255), .lit (.int .u8 255), .lit (.int .u8 255), .lit (.int .u8 255), .lit (.int .u8 255), .lit (.int .u8 255)]
def laid_pub_mintmark_pub_btcdaddress_base58_ErrChecksum {H : Type} : DataW H := .iface "*errors.errorString" (.ptr (.agg [.lit (.string [99, 104, 101, 99, 107, 115, 117, 109, 32, 101, 114, 114, 111, 114])]))
def laid_pub_mintmark_pub_btcdaddress_base58_ErrInvalidFormat {H : Type} : DataW H := .iface "*errors.errorString" (.ptr (.agg [.lit (.string [105, 110, 118, 97, 108, 105, 100, 32, 102, 111, 114, 109, 97, 116, 58, 32, 118, 101, 114, 115, 105, 111, 110, 32, 97, 110, 100, 47, 111, 114, 32, 99, 104, 101, 99, 107, 115, 117, 109, 32, 98, 121, 116, 101, 115, 32, 109, 105, 115, 115, 105, 110, 103])]))

/-- 'laws.FnBase58': WHATEVER THE INPUT: true; the input reads as it did. -/
def fnBase58Spec : ChangeSpec := { name := "fnBase58", fn := fun _ => fun
  | [d] => { results := [.lit (.bool true)], args := [d] }
  | _ => none }
def fnBase58Row : OpenClaim := { program := "ytepfbdfbfimefaadoor", sum := "512c700cdb95c678292a117f046c02e8cecbd091ee0b36724a2e8f59170037a2", func := "pub-mintmark/laws.FnBase58", spec := "fnBase58", named := ["pub-mintmark/pub/btcdaddress/base58.b58"], apart := false, laid := [("pub-mintmark/pub/btcdaddress/base58.b58", laid_pub_mintmark_pub_btcdaddress_base58_b58)] }
def FnBase58Said : Prop := fnBase58Row.holds Tryd.pinned (OpenSpec.ofChange fnBase58Spec)

/-- ITS FALSE NEIGHBOUR: 'it returns false'. Refute it at one input. -/
def fnBase58Wrong : ChangeSpec := { name := "fnBase58", fn := fun _ => fun
  | [d] => { results := [.lit (.bool false)], args := [d] }
  | _ => none }
def FnBase58WrongFalsely : Prop := fnBase58Row.holds Tryd.pinned (OpenSpec.ofChange fnBase58Wrong)

/-- 'laws.FnReadAddress58': WHATEVER THE INPUT: true; the input reads as it did. -/
def fnReadAddress58Spec : ChangeSpec := { name := "fnReadAddress58", fn := fun _ => fun
  | [d] => { results := [.lit (.bool true)], args := [d] }
  | _ => none }
def fnReadAddress58Row : OpenClaim := { program := "ytepfbdfbfimefaadoor", sum := "512c700cdb95c678292a117f046c02e8cecbd091ee0b36724a2e8f59170037a2", func := "pub-mintmark/laws.FnReadAddress58", spec := "fnReadAddress58", unfollowed := true, recurses := true, named := ["pub-mintmark/pub/btcdaddress/base58.ErrChecksum", "pub-mintmark/pub/btcdaddress/base58.ErrInvalidFormat", "pub-mintmark/pub/btcdaddress/base58.b58"], apart := false, laid := [("pub-mintmark/pub/btcdaddress/base58.b58", laid_pub_mintmark_pub_btcdaddress_base58_b58), ("pub-mintmark/pub/btcdaddress/base58.ErrChecksum", laid_pub_mintmark_pub_btcdaddress_base58_ErrChecksum), ("pub-mintmark/pub/btcdaddress/base58.ErrInvalidFormat", laid_pub_mintmark_pub_btcdaddress_base58_ErrInvalidFormat)] }
def FnReadAddress58Said : Prop := fnReadAddress58Row.holds Tryd.pinned (OpenSpec.ofChange fnReadAddress58Spec)

/-- ITS FALSE NEIGHBOUR: 'it returns false'. Refute it at one input. -/
def fnReadAddress58Wrong : ChangeSpec := { name := "fnReadAddress58", fn := fun _ => fun
  | [d] => { results := [.lit (.bool false)], args := [d] }
  | _ => none }
def FnReadAddress58WrongFalsely : Prop := fnReadAddress58Row.holds Tryd.pinned (OpenSpec.ofChange fnReadAddress58Wrong)

/- THE SECOND FORM. 'bulk': how many values and letters a reading holds, each counted each time it is reached (what is shared counts as often as it is met; a slice's spare places count too). A statement '..UptoSaid' is the law's where the arguments, and the package variables that the reading takes, are together of bulk at most 1048576: NARROWER than '..Said'. Prove '..Said' where nothing that the law and all that it calls make is longer than what came in: it says more and counts as full. Else prove '..UptoSaid'. A law counts once. -/
mutual
def uptoBulk {H : Type} : DataW H → Nat
  | .lit (.string bytes) => bytes.length + 1
  | .lit _ => 1
  | .nil => 1
  | .ptr d => uptoBulk d + 1
  | .slice elems spare => uptoBulkAll elems + uptoBulkAll spare + 1
  | .agg parts => uptoBulkAll parts + 1
  | .iface _ d => uptoBulk d + 1
  | .map entries => uptoBulkEntries entries + 1
  | .held _ => 1
def uptoBulkAll {H : Type} : List (DataW H) → Nat
  | [] => 0
  | d :: r => uptoBulk d + uptoBulkAll r
def uptoBulkEntries {H : Type} : List (Lit × DataW H) → Nat
  | [] => 0
  | x :: r => uptoBulkEntry x + uptoBulkEntries r
def uptoBulkEntry {H : Type} : Lit × DataW H → Nat
  | (.string bytes, d) => bytes.length + uptoBulk d + 1
  | (_, d) => uptoBulk d + 1
 end
def uptoSmall : (H : Type) → List (DataW H) → Bool := fun _ ds => decide (uptoBulkAll ds ≤ 1048576)
def OpenSpec.upto (s : _root_.Go.ChangeSpec) : _root_.Go.OpenSpec := { _root_.Go.OpenSpec.ofChange s with cond := some uptoSmall }

/-- 'laws.FnBase58', WHERE WHAT IT READS IS OF BULK AT MOST 1048576: true; the input reads as it did. -/
def fnBase58UptoRow : OpenClaim := { program := "ytepfbdfbfimefaadoor", sum := "512c700cdb95c678292a117f046c02e8cecbd091ee0b36724a2e8f59170037a2", func := "pub-mintmark/laws.FnBase58", spec := "fnBase58", named := ["pub-mintmark/pub/btcdaddress/base58.b58"], apart := false, laid := [("pub-mintmark/pub/btcdaddress/base58.b58", laid_pub_mintmark_pub_btcdaddress_base58_b58)], narrowed := true }
def FnBase58UptoSaid : Prop := fnBase58UptoRow.holds Tryd.pinned (OpenSpec.upto fnBase58Spec)

/-- 'laws.FnReadAddress58', WHERE WHAT IT READS IS OF BULK AT MOST 1048576: true; the input reads as it did. -/
def fnReadAddress58UptoRow : OpenClaim := { program := "ytepfbdfbfimefaadoor", sum := "512c700cdb95c678292a117f046c02e8cecbd091ee0b36724a2e8f59170037a2", func := "pub-mintmark/laws.FnReadAddress58", spec := "fnReadAddress58", unfollowed := true, recurses := true, named := ["pub-mintmark/pub/btcdaddress/base58.ErrChecksum", "pub-mintmark/pub/btcdaddress/base58.ErrInvalidFormat", "pub-mintmark/pub/btcdaddress/base58.b58"], apart := false, laid := [("pub-mintmark/pub/btcdaddress/base58.b58", laid_pub_mintmark_pub_btcdaddress_base58_b58), ("pub-mintmark/pub/btcdaddress/base58.ErrChecksum", laid_pub_mintmark_pub_btcdaddress_base58_ErrChecksum), ("pub-mintmark/pub/btcdaddress/base58.ErrInvalidFormat", laid_pub_mintmark_pub_btcdaddress_base58_ErrInvalidFormat)], narrowed := true }
def FnReadAddress58UptoSaid : Prop := fnReadAddress58UptoRow.holds Tryd.pinned (OpenSpec.upto fnReadAddress58Spec)

end Rows
end Go.Proofs.YtepfbdfbfimefaaDoor
