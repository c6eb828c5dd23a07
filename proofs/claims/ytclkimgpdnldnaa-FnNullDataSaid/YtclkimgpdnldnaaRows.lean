/-
  No cell of these rows narrows 'for every input' (looked for: loops, veiled, ifaces, maps, wideKeys, modest, calm, conditions, laid).
  DERIVED. THE GIVEN ROWS OF THIS SEAT. 10 by the template 'for every input the law returns true; each argument reads behind the call as it read before'; 0 by the template 'total and deterministic' (their statements: YtclkimgpdnldnaaTotals.lean).
  GIVEN WITH THE SEED: the statements are not yours to turn. If you find one false, say at which input.
  Laid BY PROGRAM, IN A SANDBOX (cutbox-rows.mjs): the forced cells as the released guide's own fill.sh prints them over the translation c04aba290c2070b6… (all of the seat's roots in one cut). By AI agents, Wed Nov 11 2026. No macro, syntax, notation, axiom, sorry.
-/
import Derived.Test.YtclkimgpdnldnaaChecked
import GoSem.Claim
import GoSem.ClaimJoined
import GoSem.ClaimMapViews
import Derived.JoinedTies
import Derived.KernelRfl
namespace Go.Proofs.Ytclkimgpdnldnaa
/- THE CELL 'sum', in the pinned program and in every row, IS THE sha256 OF THE DUMP (.gsa) THAT YtclkimgpdnldnaaProg.lean LOADS. Nothing in Lean hashes anything: it is a label: what it is worth is what the hold of that sum in a sandbox is worth. -/
noncomputable def Try.pinned : Pinned := { name := "ytclkimgpdnldnaa", sum := "c04aba290c2070b64b64c650154bce34e2340ca23cca543fe27e55e6529ef687", checked := Try.checked }
namespace Rows
def none {H : Type} : Left H := { results := [], args := [] }

/-- 'laws.FnSubsidyHalves': WHATEVER THE INPUT: true; the input reads as it did. -/
def fnSubsidyHalvesSpec : ChangeSpec := { name := "fnSubsidyHalves", fn := fun _ => fun
  | [d1, d2] => { results := [.lit (.bool true)], args := [d1, d2] }
  | _ => none }
def fnSubsidyHalvesRow : OpenClaim := { program := "ytclkimgpdnldnaa", sum := "c04aba290c2070b64b64c650154bce34e2340ca23cca543fe27e55e6529ef687", func := "pub-mintmark/laws.FnSubsidyHalves", spec := "fnSubsidyHalves", apart := false }
def FnSubsidyHalvesSaid : Prop := fnSubsidyHalvesRow.holds Try.pinned (OpenSpec.ofChange fnSubsidyHalvesSpec)

/-- ITS FALSE NEIGHBOUR: 'it returns false'. Refute it at one input. -/
def fnSubsidyHalvesWrong : ChangeSpec := { name := "fnSubsidyHalves", fn := fun _ => fun
  | [d1, d2] => { results := [.lit (.bool false)], args := [d1, d2] }
  | _ => none }
def FnSubsidyHalvesWrongFalsely : Prop := fnSubsidyHalvesRow.holds Try.pinned (OpenSpec.ofChange fnSubsidyHalvesWrong)

/-- 'laws.FnSmallInt': WHATEVER THE INPUT: true; the input reads as it did. -/
def fnSmallIntSpec : ChangeSpec := { name := "fnSmallInt", fn := fun _ => fun
  | [d] => { results := [.lit (.bool true)], args := [d] }
  | _ => none }
def fnSmallIntRow : OpenClaim := { program := "ytclkimgpdnldnaa", sum := "c04aba290c2070b64b64c650154bce34e2340ca23cca543fe27e55e6529ef687", func := "pub-mintmark/laws.FnSmallInt", spec := "fnSmallInt", apart := false }
def FnSmallIntSaid : Prop := fnSmallIntRow.holds Try.pinned (OpenSpec.ofChange fnSmallIntSpec)

/-- ITS FALSE NEIGHBOUR: 'it returns false'. Refute it at one input. -/
def fnSmallIntWrong : ChangeSpec := { name := "fnSmallInt", fn := fun _ => fun
  | [d] => { results := [.lit (.bool false)], args := [d] }
  | _ => none }
def FnSmallIntWrongFalsely : Prop := fnSmallIntRow.holds Try.pinned (OpenSpec.ofChange fnSmallIntWrong)

/-- 'laws.FnIsFinal': WHATEVER THE INPUT: true; the input reads as it did. -/
def fnIsFinalSpec : ChangeSpec := { name := "fnIsFinal", fn := fun _ => fun
  | [d1, d2, d3] => { results := [.lit (.bool true)], args := [d1, d2, d3] }
  | _ => none }
def fnIsFinalRow : OpenClaim := { program := "ytclkimgpdnldnaa", sum := "c04aba290c2070b64b64c650154bce34e2340ca23cca543fe27e55e6529ef687", func := "pub-mintmark/laws.FnIsFinal", spec := "fnIsFinal", apart := false }
def FnIsFinalSaid : Prop := fnIsFinalRow.holds Try.pinned (OpenSpec.ofChange fnIsFinalSpec)

/-- ITS FALSE NEIGHBOUR: 'it returns false'. Refute it at one input. -/
def fnIsFinalWrong : ChangeSpec := { name := "fnIsFinal", fn := fun _ => fun
  | [d1, d2, d3] => { results := [.lit (.bool false)], args := [d1, d2, d3] }
  | _ => none }
def FnIsFinalWrongFalsely : Prop := fnIsFinalRow.holds Try.pinned (OpenSpec.ofChange fnIsFinalWrong)

/-- 'laws.FnNumber': WHATEVER THE INPUT: true; the input reads as it did. -/
def fnNumberSpec : ChangeSpec := { name := "fnNumber", fn := fun _ => fun
  | [d1, d2, d3] => { results := [.lit (.bool true)], args := [d1, d2, d3] }
  | _ => none }
def fnNumberRow : OpenClaim := { program := "ytclkimgpdnldnaa", sum := "c04aba290c2070b64b64c650154bce34e2340ca23cca543fe27e55e6529ef687", func := "pub-mintmark/laws.FnNumber", spec := "fnNumber", apart := false }
def FnNumberSaid : Prop := fnNumberRow.holds Try.pinned (OpenSpec.ofChange fnNumberSpec)

/-- ITS FALSE NEIGHBOUR: 'it returns false'. Refute it at one input. -/
def fnNumberWrong : ChangeSpec := { name := "fnNumber", fn := fun _ => fun
  | [d1, d2, d3] => { results := [.lit (.bool false)], args := [d1, d2, d3] }
  | _ => none }
def FnNumberWrongFalsely : Prop := fnNumberRow.holds Try.pinned (OpenSpec.ofChange fnNumberWrong)

/-- 'laws.FnRegroupBack': WHATEVER THE INPUT: true; the input reads as it did. -/
def fnRegroupBackSpec : ChangeSpec := { name := "fnRegroupBack", fn := fun _ => fun
  | [d] => { results := [.lit (.bool true)], args := [d] }
  | _ => none }
def fnRegroupBackRow : OpenClaim := { program := "ytclkimgpdnldnaa", sum := "c04aba290c2070b64b64c650154bce34e2340ca23cca543fe27e55e6529ef687", func := "pub-mintmark/laws.FnRegroupBack", spec := "fnRegroupBack", apart := false }
def FnRegroupBackSaid : Prop := fnRegroupBackRow.holds Try.pinned (OpenSpec.ofChange fnRegroupBackSpec)

/-- ITS FALSE NEIGHBOUR: 'it returns false'. Refute it at one input. -/
def fnRegroupBackWrong : ChangeSpec := { name := "fnRegroupBack", fn := fun _ => fun
  | [d] => { results := [.lit (.bool false)], args := [d] }
  | _ => none }
def FnRegroupBackWrongFalsely : Prop := fnRegroupBackRow.holds Try.pinned (OpenSpec.ofChange fnRegroupBackWrong)

/-- 'laws.FnCommitment': WHATEVER THE INPUT: true; the input reads as it did. -/
def fnCommitmentSpec : ChangeSpec := { name := "fnCommitment", fn := fun _ => fun
  | [d] => { results := [.lit (.bool true)], args := [d] }
  | _ => none }
def fnCommitmentRow : OpenClaim := { program := "ytclkimgpdnldnaa", sum := "c04aba290c2070b64b64c650154bce34e2340ca23cca543fe27e55e6529ef687", func := "pub-mintmark/laws.FnCommitment", spec := "fnCommitment", apart := false }
def FnCommitmentSaid : Prop := fnCommitmentRow.holds Try.pinned (OpenSpec.ofChange fnCommitmentSpec)

/-- ITS FALSE NEIGHBOUR: 'it returns false'. Refute it at one input. -/
def fnCommitmentWrong : ChangeSpec := { name := "fnCommitment", fn := fun _ => fun
  | [d] => { results := [.lit (.bool false)], args := [d] }
  | _ => none }
def FnCommitmentWrongFalsely : Prop := fnCommitmentRow.holds Try.pinned (OpenSpec.ofChange fnCommitmentWrong)

/-- 'laws.FnTxSizes': WHATEVER THE INPUT: true; the input reads as it did. -/
def fnTxSizesSpec : ChangeSpec := { name := "fnTxSizes", fn := fun _ => fun
  | [d] => { results := [.lit (.bool true)], args := [d] }
  | _ => none }
def fnTxSizesRow : OpenClaim := { program := "ytclkimgpdnldnaa", sum := "c04aba290c2070b64b64c650154bce34e2340ca23cca543fe27e55e6529ef687", func := "pub-mintmark/laws.FnTxSizes", spec := "fnTxSizes", apart := false }
def FnTxSizesSaid : Prop := fnTxSizesRow.holds Try.pinned (OpenSpec.ofChange fnTxSizesSpec)

/-- ITS FALSE NEIGHBOUR: 'it returns false'. Refute it at one input. -/
def fnTxSizesWrong : ChangeSpec := { name := "fnTxSizes", fn := fun _ => fun
  | [d] => { results := [.lit (.bool false)], args := [d] }
  | _ => none }
def FnTxSizesWrongFalsely : Prop := fnTxSizesRow.holds Try.pinned (OpenSpec.ofChange fnTxSizesWrong)

/-- 'laws.FnBloomOrder': WHATEVER THE INPUT: true; the input reads as it did. -/
def fnBloomOrderSpec : ChangeSpec := { name := "fnBloomOrder", fn := fun _ => fun
  | [d1, d2, d3] => { results := [.lit (.bool true)], args := [d1, d2, d3] }
  | _ => none }
def fnBloomOrderRow : OpenClaim := { program := "ytclkimgpdnldnaa", sum := "c04aba290c2070b64b64c650154bce34e2340ca23cca543fe27e55e6529ef687", func := "pub-mintmark/laws.FnBloomOrder", spec := "fnBloomOrder", inPlace := ["(*internal/sync.Mutex).Lock", "internal/race.Disable", "sync/atomic.CompareAndSwapInt32", "internal/race.Enable", "internal/race.Acquire", "(*internal/sync.Mutex).lockSlow", "internal/sync.runtime_canSpin", "internal/sync.runtime_doSpin", "internal/sync.throw", "internal/sync.runtime_nanotime", "internal/sync.runtime_SemacquireMutex", "sync/atomic.AddInt32", "(*internal/sync.Mutex).Unlock", "internal/race.ReleaseMerge", "(*internal/sync.Mutex).unlockSlow", "internal/sync.fatal", "internal/sync.runtime_Semrelease"], named := ["encoding/binary.LittleEndian"], apart := false }
def FnBloomOrderSaid : Prop := fnBloomOrderRow.holds Try.pinned (OpenSpec.ofChange fnBloomOrderSpec)

/-- ITS FALSE NEIGHBOUR: 'it returns false'. Refute it at one input. -/
def fnBloomOrderWrong : ChangeSpec := { name := "fnBloomOrder", fn := fun _ => fun
  | [d1, d2, d3] => { results := [.lit (.bool false)], args := [d1, d2, d3] }
  | _ => none }
def FnBloomOrderWrongFalsely : Prop := fnBloomOrderRow.holds Try.pinned (OpenSpec.ofChange fnBloomOrderWrong)

/-- 'laws.FnNullData': WHATEVER THE INPUT: true; the input reads as it did. -/
def fnNullDataSpec : ChangeSpec := { name := "fnNullData", fn := fun _ => fun
  | [d] => { results := [.lit (.bool true)], args := [d] }
  | _ => none }
def fnNullDataRow : OpenClaim := { program := "ytclkimgpdnldnaa", sum := "c04aba290c2070b64b64c650154bce34e2340ca23cca543fe27e55e6529ef687", func := "pub-mintmark/laws.FnNullData", spec := "fnNullData", unfollowed := true, recurses := true, named := ["encoding/binary.LittleEndian"], apart := false }
def FnNullDataSaid : Prop := fnNullDataRow.holds Try.pinned (OpenSpec.ofChange fnNullDataSpec)

/-- ITS FALSE NEIGHBOUR: 'it returns false'. Refute it at one input. -/
def fnNullDataWrong : ChangeSpec := { name := "fnNullData", fn := fun _ => fun
  | [d] => { results := [.lit (.bool false)], args := [d] }
  | _ => none }
def FnNullDataWrongFalsely : Prop := fnNullDataRow.holds Try.pinned (OpenSpec.ofChange fnNullDataWrong)

/-- 'laws.FnWeights': WHATEVER THE INPUT: true; the input reads as it did. -/
def fnWeightsSpec : ChangeSpec := { name := "fnWeights", fn := fun _ => fun
  | [d] => { results := [.lit (.bool true)], args := [d] }
  | _ => none }
def fnWeightsRow : OpenClaim := { program := "ytclkimgpdnldnaa", sum := "c04aba290c2070b64b64c650154bce34e2340ca23cca543fe27e55e6529ef687", func := "pub-mintmark/laws.FnWeights", spec := "fnWeights", apart := false }
def FnWeightsSaid : Prop := fnWeightsRow.holds Try.pinned (OpenSpec.ofChange fnWeightsSpec)

/-- ITS FALSE NEIGHBOUR: 'it returns false'. Refute it at one input. -/
def fnWeightsWrong : ChangeSpec := { name := "fnWeights", fn := fun _ => fun
  | [d] => { results := [.lit (.bool false)], args := [d] }
  | _ => none }
def FnWeightsWrongFalsely : Prop := fnWeightsRow.holds Try.pinned (OpenSpec.ofChange fnWeightsWrong)

/- THE SECOND FORM. 'bulk': how many values and letters a reading holds, each counted each time it is reached (what is shared counts as often as it is met; a slice's spare places count too). A statement '..UptoSaid' is the law's where the arguments, and the package variables that the reading takes, are together of bulk at most 1048576: NARROWER than '..Said'. Prove '..Said' where nothing that the law and all that it calls make is longer than what came in: it says more and counts as full. Else prove '..UptoSaid'. A law counts once. -/
mutual
def uptoBulk {H : Type} : DataW H → Nat
  | .lit (.string bytes) => bytes.length + 1
  | .lit _ => 1
  | .nil => 1
  | .ptr d => uptoBulk d + 1
  | .slice elems spare => uptoBulkAll elems + uptoBulkAll spare + 1
  | .agg parts => uptoBulkAll parts + 1
  | .iface _ d => uptoBulk d + 1
  | .map entries => uptoBulkEntries entries + 1
  | .held _ => 1
def uptoBulkAll {H : Type} : List (DataW H) → Nat
  | [] => 0
  | d :: r => uptoBulk d + uptoBulkAll r
def uptoBulkEntries {H : Type} : List (Lit × DataW H) → Nat
  | [] => 0
  | x :: r => uptoBulkEntry x + uptoBulkEntries r
def uptoBulkEntry {H : Type} : Lit × DataW H → Nat
  | (.string bytes, d) => bytes.length + uptoBulk d + 1
  | (_, d) => uptoBulk d + 1
 end
def uptoSmall : (H : Type) → List (DataW H) → Bool := fun _ ds => decide (uptoBulkAll ds ≤ 1048576)
def OpenSpec.upto (s : _root_.Go.ChangeSpec) : _root_.Go.OpenSpec := { _root_.Go.OpenSpec.ofChange s with cond := some uptoSmall }

/-- 'laws.FnSubsidyHalves', WHERE WHAT IT READS IS OF BULK AT MOST 1048576: true; the input reads as it did. -/
def fnSubsidyHalvesUptoRow : OpenClaim := { program := "ytclkimgpdnldnaa", sum := "c04aba290c2070b64b64c650154bce34e2340ca23cca543fe27e55e6529ef687", func := "pub-mintmark/laws.FnSubsidyHalves", spec := "fnSubsidyHalves", apart := false, narrowed := true }
def FnSubsidyHalvesUptoSaid : Prop := fnSubsidyHalvesUptoRow.holds Try.pinned (OpenSpec.upto fnSubsidyHalvesSpec)

/-- 'laws.FnSmallInt', WHERE WHAT IT READS IS OF BULK AT MOST 1048576: true; the input reads as it did. -/
def fnSmallIntUptoRow : OpenClaim := { program := "ytclkimgpdnldnaa", sum := "c04aba290c2070b64b64c650154bce34e2340ca23cca543fe27e55e6529ef687", func := "pub-mintmark/laws.FnSmallInt", spec := "fnSmallInt", apart := false, narrowed := true }
def FnSmallIntUptoSaid : Prop := fnSmallIntUptoRow.holds Try.pinned (OpenSpec.upto fnSmallIntSpec)

/-- 'laws.FnIsFinal', WHERE WHAT IT READS IS OF BULK AT MOST 1048576: true; the input reads as it did. -/
def fnIsFinalUptoRow : OpenClaim := { program := "ytclkimgpdnldnaa", sum := "c04aba290c2070b64b64c650154bce34e2340ca23cca543fe27e55e6529ef687", func := "pub-mintmark/laws.FnIsFinal", spec := "fnIsFinal", apart := false, narrowed := true }
def FnIsFinalUptoSaid : Prop := fnIsFinalUptoRow.holds Try.pinned (OpenSpec.upto fnIsFinalSpec)

/-- 'laws.FnNumber', WHERE WHAT IT READS IS OF BULK AT MOST 1048576: true; the input reads as it did. -/
def fnNumberUptoRow : OpenClaim := { program := "ytclkimgpdnldnaa", sum := "c04aba290c2070b64b64c650154bce34e2340ca23cca543fe27e55e6529ef687", func := "pub-mintmark/laws.FnNumber", spec := "fnNumber", apart := false, narrowed := true }
def FnNumberUptoSaid : Prop := fnNumberUptoRow.holds Try.pinned (OpenSpec.upto fnNumberSpec)

/-- 'laws.FnRegroupBack', WHERE WHAT IT READS IS OF BULK AT MOST 1048576: true; the input reads as it did. -/
def fnRegroupBackUptoRow : OpenClaim := { program := "ytclkimgpdnldnaa", sum := "c04aba290c2070b64b64c650154bce34e2340ca23cca543fe27e55e6529ef687", func := "pub-mintmark/laws.FnRegroupBack", spec := "fnRegroupBack", apart := false, narrowed := true }
def FnRegroupBackUptoSaid : Prop := fnRegroupBackUptoRow.holds Try.pinned (OpenSpec.upto fnRegroupBackSpec)

/-- 'laws.FnCommitment', WHERE WHAT IT READS IS OF BULK AT MOST 1048576: true; the input reads as it did. -/
def fnCommitmentUptoRow : OpenClaim := { program := "ytclkimgpdnldnaa", sum := "c04aba290c2070b64b64c650154bce34e2340ca23cca543fe27e55e6529ef687", func := "pub-mintmark/laws.FnCommitment", spec := "fnCommitment", apart := false, narrowed := true }
def FnCommitmentUptoSaid : Prop := fnCommitmentUptoRow.holds Try.pinned (OpenSpec.upto fnCommitmentSpec)

/-- 'laws.FnTxSizes', WHERE WHAT IT READS IS OF BULK AT MOST 1048576: true; the input reads as it did. -/
def fnTxSizesUptoRow : OpenClaim := { program := "ytclkimgpdnldnaa", sum := "c04aba290c2070b64b64c650154bce34e2340ca23cca543fe27e55e6529ef687", func := "pub-mintmark/laws.FnTxSizes", spec := "fnTxSizes", apart := false, narrowed := true }
def FnTxSizesUptoSaid : Prop := fnTxSizesUptoRow.holds Try.pinned (OpenSpec.upto fnTxSizesSpec)

/-- 'laws.FnBloomOrder', WHERE WHAT IT READS IS OF BULK AT MOST 1048576: true; the input reads as it did. -/
def fnBloomOrderUptoRow : OpenClaim := { program := "ytclkimgpdnldnaa", sum := "c04aba290c2070b64b64c650154bce34e2340ca23cca543fe27e55e6529ef687", func := "pub-mintmark/laws.FnBloomOrder", spec := "fnBloomOrder", inPlace := ["(*internal/sync.Mutex).Lock", "internal/race.Disable", "sync/atomic.CompareAndSwapInt32", "internal/race.Enable", "internal/race.Acquire", "(*internal/sync.Mutex).lockSlow", "internal/sync.runtime_canSpin", "internal/sync.runtime_doSpin", "internal/sync.throw", "internal/sync.runtime_nanotime", "internal/sync.runtime_SemacquireMutex", "sync/atomic.AddInt32", "(*internal/sync.Mutex).Unlock", "internal/race.ReleaseMerge", "(*internal/sync.Mutex).unlockSlow", "internal/sync.fatal", "internal/sync.runtime_Semrelease"], named := ["encoding/binary.LittleEndian"], apart := false, narrowed := true }
def FnBloomOrderUptoSaid : Prop := fnBloomOrderUptoRow.holds Try.pinned (OpenSpec.upto fnBloomOrderSpec)

/-- 'laws.FnNullData', WHERE WHAT IT READS IS OF BULK AT MOST 1048576: true; the input reads as it did. -/
def fnNullDataUptoRow : OpenClaim := { program := "ytclkimgpdnldnaa", sum := "c04aba290c2070b64b64c650154bce34e2340ca23cca543fe27e55e6529ef687", func := "pub-mintmark/laws.FnNullData", spec := "fnNullData", unfollowed := true, recurses := true, named := ["encoding/binary.LittleEndian"], apart := false, narrowed := true }
def FnNullDataUptoSaid : Prop := fnNullDataUptoRow.holds Try.pinned (OpenSpec.upto fnNullDataSpec)

/-- 'laws.FnWeights', WHERE WHAT IT READS IS OF BULK AT MOST 1048576: true; the input reads as it did. -/
def fnWeightsUptoRow : OpenClaim := { program := "ytclkimgpdnldnaa", sum := "c04aba290c2070b64b64c650154bce34e2340ca23cca543fe27e55e6529ef687", func := "pub-mintmark/laws.FnWeights", spec := "fnWeights", apart := false, narrowed := true }
def FnWeightsUptoSaid : Prop := fnWeightsUptoRow.holds Try.pinned (OpenSpec.upto fnWeightsSpec)

end Rows
end Go.Proofs.Ytclkimgpdnldnaa
