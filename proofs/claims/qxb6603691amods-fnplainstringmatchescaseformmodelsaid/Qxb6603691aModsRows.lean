/-
  No cell of these rows narrows 'for every input' (looked for: loops, veiled, ifaces, maps, wideKeys, modest, calm, conditions, laid).
  DERIVED. THE GIVEN ROWS OF THIS SEAT. 4 by the template 'for every input the law returns true; each argument reads behind the call as it read before'; 0 by the template 'total and deterministic' (their statements: Qxb6603691aModsTotals.lean).
  GIVEN WITH THE SEED: the statements are not yours to turn. If you find one false, say at which input.
  Laid BY PROGRAM, IN A SANDBOX (cutbox-rows.mjs): the forced cells as the released guide's own fill.sh prints them over the translation 81a75bdefd47564c… (all of the seat's roots in one cut). By AI agents, Wed Nov 11 2026. No macro, syntax, notation, axiom, sorry.
-/
import Derived.Test.Qxb6603691aModsChecked
import GoSem.Claim
import GoSem.ClaimJoined
import GoSem.ClaimMapViews
import Derived.JoinedTies
import Derived.KernelRfl
namespace Go.Proofs.Qxb6603691aMods
/- THE CELL 'sum', in the pinned program and in every row, IS THE sha256 OF THE DUMP (.gsa) THAT Qxb6603691aModsProg.lean LOADS. Nothing in Lean hashes anything: it is a label: what it is worth is what the hold of that sum in a sandbox is worth. -/
noncomputable def Trym.pinned : Pinned := { name := "qxb6603691amods", sum := "81a75bdefd47564cb2d2c161af2769ad773f7373ad970dfbabd3ab0fabe2ffba", checked := Trym.checked }
namespace Rows
def none {H : Type} : Left H := { results := [], args := [] }

/-- 'zzlaws_manifest_b1.FnLineStartsMatchesLookBehindModel': WHATEVER THE INPUT: true; the input reads as it did. -/
def fnLineStartsMatchesLookBehindModelSpec : ChangeSpec := { name := "fnLineStartsMatchesLookBehindModel", fn := fun _ => fun
  | [d] => { results := [.lit (.bool true)], args := [d] }
  | _ => none }
def fnLineStartsMatchesLookBehindModelRow : OpenClaim := { program := "qxb6603691amods", sum := "81a75bdefd47564cb2d2c161af2769ad773f7373ad970dfbabd3ab0fabe2ffba", func := "example.com/tidewater/tidewater/zzlaws_manifest_b1.FnLineStartsMatchesLookBehindModel", spec := "fnLineStartsMatchesLookBehindModel", inPlace := ["internal/bytealg.Count", "internal/bytealg.IndexByte", "internal/bytealg.Index"], named := ["internal/bytealg.MaxLen"], make := .lifted ["publicsums"], apart := false }
def FnLineStartsMatchesLookBehindModelSaid : Prop := fnLineStartsMatchesLookBehindModelRow.holds Trym.pinned (OpenSpec.ofChange fnLineStartsMatchesLookBehindModelSpec)

/-- ITS FALSE NEIGHBOUR: 'it returns false'. Refute it at one input. -/
def fnLineStartsMatchesLookBehindModelWrong : ChangeSpec := { name := "fnLineStartsMatchesLookBehindModel", fn := fun _ => fun
  | [d] => { results := [.lit (.bool false)], args := [d] }
  | _ => none }
def FnLineStartsMatchesLookBehindModelWrongFalsely : Prop := fnLineStartsMatchesLookBehindModelRow.holds Trym.pinned (OpenSpec.ofChange fnLineStartsMatchesLookBehindModelWrong)

/-- 'zzlaws_manifest_b1.FnLineStartsSplitAfterLineFeed': WHATEVER THE INPUT: true; the input reads as it did. -/
def fnLineStartsSplitAfterLineFeedSpec : ChangeSpec := { name := "fnLineStartsSplitAfterLineFeed", fn := fun _ => fun
  | [d1, d2] => { results := [.lit (.bool true)], args := [d1, d2] }
  | _ => none }
def fnLineStartsSplitAfterLineFeedRow : OpenClaim := { program := "qxb6603691amods", sum := "81a75bdefd47564cb2d2c161af2769ad773f7373ad970dfbabd3ab0fabe2ffba", func := "example.com/tidewater/tidewater/zzlaws_manifest_b1.FnLineStartsSplitAfterLineFeed", spec := "fnLineStartsSplitAfterLineFeed", inPlace := ["internal/bytealg.Count", "internal/bytealg.IndexByte", "internal/bytealg.Index"], named := ["internal/bytealg.MaxLen"], make := .lifted ["publicsums"], apart := false }
def FnLineStartsSplitAfterLineFeedSaid : Prop := fnLineStartsSplitAfterLineFeedRow.holds Trym.pinned (OpenSpec.ofChange fnLineStartsSplitAfterLineFeedSpec)

/-- ITS FALSE NEIGHBOUR: 'it returns false'. Refute it at one input. -/
def fnLineStartsSplitAfterLineFeedWrong : ChangeSpec := { name := "fnLineStartsSplitAfterLineFeed", fn := fun _ => fun
  | [d1, d2] => { results := [.lit (.bool false)], args := [d1, d2] }
  | _ => none }
def FnLineStartsSplitAfterLineFeedWrongFalsely : Prop := fnLineStartsSplitAfterLineFeedRow.holds Trym.pinned (OpenSpec.ofChange fnLineStartsSplitAfterLineFeedWrong)

/-- 'zzlaws_manifest_b1.FnPlainStringMatchesCaseFormModel': WHATEVER THE INPUT: true; the input reads as it did. -/
def fnPlainStringMatchesCaseFormModelSpec : ChangeSpec := { name := "fnPlainStringMatchesCaseFormModel", fn := fun _ => fun
  | [d] => { results := [.lit (.bool true)], args := [d] }
  | _ => none }
def fnPlainStringMatchesCaseFormModelRow : OpenClaim := { program := "qxb6603691amods", sum := "81a75bdefd47564cb2d2c161af2769ad773f7373ad970dfbabd3ab0fabe2ffba", func := "example.com/tidewater/tidewater/zzlaws_manifest_b1.FnPlainStringMatchesCaseFormModel", spec := "fnPlainStringMatchesCaseFormModel", inPlace := ["internal/bytealg.IndexByteString"], make := .lifted ["publicsums"], apart := false }
def FnPlainStringMatchesCaseFormModelSaid : Prop := fnPlainStringMatchesCaseFormModelRow.holds Trym.pinned (OpenSpec.ofChange fnPlainStringMatchesCaseFormModelSpec)

/-- ITS FALSE NEIGHBOUR: 'it returns false'. Refute it at one input. -/
def fnPlainStringMatchesCaseFormModelWrong : ChangeSpec := { name := "fnPlainStringMatchesCaseFormModel", fn := fun _ => fun
  | [d] => { results := [.lit (.bool false)], args := [d] }
  | _ => none }
def FnPlainStringMatchesCaseFormModelWrongFalsely : Prop := fnPlainStringMatchesCaseFormModelRow.holds Trym.pinned (OpenSpec.ofChange fnPlainStringMatchesCaseFormModelWrong)

/-- 'zzlaws_manifest_b1.FnStreamPartsCutsAtSeparatorsInOrder': WHATEVER THE INPUT: true; the input reads as it did. -/
def fnStreamPartsCutsAtSeparatorsInOrderSpec : ChangeSpec := { name := "fnStreamPartsCutsAtSeparatorsInOrder", fn := fun _ => fun
  | [d1, d2] => { results := [.lit (.bool true)], args := [d1, d2] }
  | _ => none }
def fnStreamPartsCutsAtSeparatorsInOrderRow : OpenClaim := { program := "qxb6603691amods", sum := "81a75bdefd47564cb2d2c161af2769ad773f7373ad970dfbabd3ab0fabe2ffba", func := "example.com/tidewater/tidewater/zzlaws_manifest_b1.FnStreamPartsCutsAtSeparatorsInOrder", spec := "fnStreamPartsCutsAtSeparatorsInOrder", inPlace := ["internal/bytealg.Count", "internal/bytealg.IndexByte", "internal/bytealg.Index", "internal/bytealg.IndexByteString"], named := ["internal/bytealg.MaxLen"], make := .lifted ["publicsums"], apart := false }
def FnStreamPartsCutsAtSeparatorsInOrderSaid : Prop := fnStreamPartsCutsAtSeparatorsInOrderRow.holds Trym.pinned (OpenSpec.ofChange fnStreamPartsCutsAtSeparatorsInOrderSpec)

/-- ITS FALSE NEIGHBOUR: 'it returns false'. Refute it at one input. -/
def fnStreamPartsCutsAtSeparatorsInOrderWrong : ChangeSpec := { name := "fnStreamPartsCutsAtSeparatorsInOrder", fn := fun _ => fun
  | [d1, d2] => { results := [.lit (.bool false)], args := [d1, d2] }
  | _ => none }
def FnStreamPartsCutsAtSeparatorsInOrderWrongFalsely : Prop := fnStreamPartsCutsAtSeparatorsInOrderRow.holds Trym.pinned (OpenSpec.ofChange fnStreamPartsCutsAtSeparatorsInOrderWrong)

end Rows
end Go.Proofs.Qxb6603691aMods
