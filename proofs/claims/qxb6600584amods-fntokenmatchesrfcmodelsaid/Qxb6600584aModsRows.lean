/-
  No cell of these rows narrows 'for every input' (looked for: loops, veiled, ifaces, maps, wideKeys, modest, calm, conditions, laid).
  DERIVED. THE GIVEN ROWS OF THIS SEAT. 6 by the template 'for every input the law returns true; each argument reads behind the call as it read before'; 0 by the template 'total and deterministic' (their statements: Qxb6600584aModsTotals.lean).
  GIVEN WITH THE SEED: the statements are not yours to turn. If you find one false, say at which input.
  Laid BY PROGRAM, IN A SANDBOX (cutbox-rows.mjs): the forced cells as the released guide's own fill.sh prints them over the translation 395c0de5e187a88d… (all of the seat's roots in one cut). By AI agents, Wed Nov 11 2026. No macro, syntax, notation, axiom, sorry.
-/
import Derived.Test.Qxb6600584aModsChecked
import GoSem.Claim
import GoSem.ClaimJoined
import GoSem.ClaimMapViews
import Derived.JoinedTies
import Derived.KernelRfl
namespace Go.Proofs.Qxb6600584aMods
/- THE CELL 'sum', in the pinned program and in every row, IS THE sha256 OF THE DUMP (.gsa) THAT Qxb6600584aModsProg.lean LOADS. Nothing in Lean hashes anything: it is a label: what it is worth is what the hold of that sum in a sandbox is worth. -/
noncomputable def Trym.pinned : Pinned := { name := "qxb6600584amods", sum := "395c0de5e187a88d8784a6674d7b1904dcbb68cfcf1904a99e9752911797fc04", checked := Trym.checked }
namespace Rows
def none {H : Type} : Left H := { results := [], args := [] }

/-- 'zzlaws_mcp_b1.FnTokenMatchesRFCModel': WHATEVER THE INPUT: true; the input reads as it did. -/
def fnTokenMatchesRFCModelSpec : ChangeSpec := { name := "fnTokenMatchesRFCModel", fn := fun _ => fun
  | [d] => { results := [.lit (.bool true)], args := [d] }
  | _ => none }
def fnTokenMatchesRFCModelRow : OpenClaim := { program := "qxb6600584amods", sum := "395c0de5e187a88d8784a6674d7b1904dcbb68cfcf1904a99e9752911797fc04", func := "example.com/ostler/ostler/zzlaws_mcp_b1.FnTokenMatchesRFCModel", spec := "fnTokenMatchesRFCModel", inPlace := ["internal/bytealg.IndexByteString"], make := .lifted ["publicsums"], apart := false }
def FnTokenMatchesRFCModelSaid : Prop := fnTokenMatchesRFCModelRow.holds Trym.pinned (OpenSpec.ofChange fnTokenMatchesRFCModelSpec)

/-- ITS FALSE NEIGHBOUR: 'it returns false'. Refute it at one input. -/
def fnTokenMatchesRFCModelWrong : ChangeSpec := { name := "fnTokenMatchesRFCModel", fn := fun _ => fun
  | [d] => { results := [.lit (.bool false)], args := [d] }
  | _ => none }
def FnTokenMatchesRFCModelWrongFalsely : Prop := fnTokenMatchesRFCModelRow.holds Trym.pinned (OpenSpec.ofChange fnTokenMatchesRFCModelWrong)

/-- 'zzlaws_mcp_b1.FnTokenConcatenation': WHATEVER THE INPUT: true; the input reads as it did. -/
def fnTokenConcatenationSpec : ChangeSpec := { name := "fnTokenConcatenation", fn := fun _ => fun
  | [d1, d2] => { results := [.lit (.bool true)], args := [d1, d2] }
  | _ => none }
def fnTokenConcatenationRow : OpenClaim := { program := "qxb6600584amods", sum := "395c0de5e187a88d8784a6674d7b1904dcbb68cfcf1904a99e9752911797fc04", func := "example.com/ostler/ostler/zzlaws_mcp_b1.FnTokenConcatenation", spec := "fnTokenConcatenation", inPlace := ["internal/bytealg.IndexByteString"], make := .lifted ["publicsums"], apart := false }
def FnTokenConcatenationSaid : Prop := fnTokenConcatenationRow.holds Trym.pinned (OpenSpec.ofChange fnTokenConcatenationSpec)

/-- ITS FALSE NEIGHBOUR: 'it returns false'. Refute it at one input. -/
def fnTokenConcatenationWrong : ChangeSpec := { name := "fnTokenConcatenation", fn := fun _ => fun
  | [d1, d2] => { results := [.lit (.bool false)], args := [d1, d2] }
  | _ => none }
def FnTokenConcatenationWrongFalsely : Prop := fnTokenConcatenationRow.holds Trym.pinned (OpenSpec.ofChange fnTokenConcatenationWrong)

/-- 'zzlaws_mcp_b1.FnHoldsSplitSpecification': WHATEVER THE INPUT: true; the input reads as it did. -/
def fnHoldsSplitSpecificationSpec : ChangeSpec := { name := "fnHoldsSplitSpecification", fn := fun _ => fun
  | [d1, d2, d3] => { results := [.lit (.bool true)], args := [d1, d2, d3] }
  | _ => none }
def fnHoldsSplitSpecificationRow : OpenClaim := { program := "qxb6600584amods", sum := "395c0de5e187a88d8784a6674d7b1904dcbb68cfcf1904a99e9752911797fc04", func := "example.com/ostler/ostler/zzlaws_mcp_b1.FnHoldsSplitSpecification", spec := "fnHoldsSplitSpecification", make := .lifted ["publicsums"], apart := false }
def FnHoldsSplitSpecificationSaid : Prop := fnHoldsSplitSpecificationRow.holds Trym.pinned (OpenSpec.ofChange fnHoldsSplitSpecificationSpec)

/-- ITS FALSE NEIGHBOUR: 'it returns false'. Refute it at one input. -/
def fnHoldsSplitSpecificationWrong : ChangeSpec := { name := "fnHoldsSplitSpecification", fn := fun _ => fun
  | [d1, d2, d3] => { results := [.lit (.bool false)], args := [d1, d2, d3] }
  | _ => none }
def FnHoldsSplitSpecificationWrongFalsely : Prop := fnHoldsSplitSpecificationRow.holds Trym.pinned (OpenSpec.ofChange fnHoldsSplitSpecificationWrong)

/-- 'zzlaws_mcp_b1.FnHoldsOwnElementsAndOrderFree': WHATEVER THE INPUT: true; the input reads as it did. -/
def fnHoldsOwnElementsAndOrderFreeSpec : ChangeSpec := { name := "fnHoldsOwnElementsAndOrderFree", fn := fun _ => fun
  | [d1, d2, d3] => { results := [.lit (.bool true)], args := [d1, d2, d3] }
  | _ => none }
def fnHoldsOwnElementsAndOrderFreeRow : OpenClaim := { program := "qxb6600584amods", sum := "395c0de5e187a88d8784a6674d7b1904dcbb68cfcf1904a99e9752911797fc04", func := "example.com/ostler/ostler/zzlaws_mcp_b1.FnHoldsOwnElementsAndOrderFree", spec := "fnHoldsOwnElementsAndOrderFree", make := .lifted ["publicsums"], apart := false }
def FnHoldsOwnElementsAndOrderFreeSaid : Prop := fnHoldsOwnElementsAndOrderFreeRow.holds Trym.pinned (OpenSpec.ofChange fnHoldsOwnElementsAndOrderFreeSpec)

/-- ITS FALSE NEIGHBOUR: 'it returns false'. Refute it at one input. -/
def fnHoldsOwnElementsAndOrderFreeWrong : ChangeSpec := { name := "fnHoldsOwnElementsAndOrderFree", fn := fun _ => fun
  | [d1, d2, d3] => { results := [.lit (.bool false)], args := [d1, d2, d3] }
  | _ => none }
def FnHoldsOwnElementsAndOrderFreeWrongFalsely : Prop := fnHoldsOwnElementsAndOrderFreeRow.holds Trym.pinned (OpenSpec.ofChange fnHoldsOwnElementsAndOrderFreeWrong)

/-- 'zzlaws_mcp_b1.FnAppendDoublingContents': WHATEVER THE INPUT: true; the input reads as it did. -/
def fnAppendDoublingContentsSpec : ChangeSpec := { name := "fnAppendDoublingContents", fn := fun _ => fun
  | [d1, d2, d3] => { results := [.lit (.bool true)], args := [d1, d2, d3] }
  | _ => none }
def fnAppendDoublingContentsRow : OpenClaim := { program := "qxb6600584amods", sum := "395c0de5e187a88d8784a6674d7b1904dcbb68cfcf1904a99e9752911797fc04", func := "example.com/ostler/ostler/zzlaws_mcp_b1.FnAppendDoublingContents", spec := "fnAppendDoublingContents", make := .lifted ["publicsums"], apart := false }
def FnAppendDoublingContentsSaid : Prop := fnAppendDoublingContentsRow.holds Trym.pinned (OpenSpec.ofChange fnAppendDoublingContentsSpec)

/-- ITS FALSE NEIGHBOUR: 'it returns false'. Refute it at one input. -/
def fnAppendDoublingContentsWrong : ChangeSpec := { name := "fnAppendDoublingContents", fn := fun _ => fun
  | [d1, d2, d3] => { results := [.lit (.bool false)], args := [d1, d2, d3] }
  | _ => none }
def FnAppendDoublingContentsWrongFalsely : Prop := fnAppendDoublingContentsRow.holds Trym.pinned (OpenSpec.ofChange fnAppendDoublingContentsWrong)

/-- 'zzlaws_mcp_b1.FnAppendDoublingScript': WHATEVER THE INPUT: true; the input reads as it did. -/
def fnAppendDoublingScriptSpec : ChangeSpec := { name := "fnAppendDoublingScript", fn := fun _ => fun
  | [d] => { results := [.lit (.bool true)], args := [d] }
  | _ => none }
def fnAppendDoublingScriptRow : OpenClaim := { program := "qxb6600584amods", sum := "395c0de5e187a88d8784a6674d7b1904dcbb68cfcf1904a99e9752911797fc04", func := "example.com/ostler/ostler/zzlaws_mcp_b1.FnAppendDoublingScript", spec := "fnAppendDoublingScript", make := .lifted ["publicsums"], apart := false }
def FnAppendDoublingScriptSaid : Prop := fnAppendDoublingScriptRow.holds Trym.pinned (OpenSpec.ofChange fnAppendDoublingScriptSpec)

/-- ITS FALSE NEIGHBOUR: 'it returns false'. Refute it at one input. -/
def fnAppendDoublingScriptWrong : ChangeSpec := { name := "fnAppendDoublingScript", fn := fun _ => fun
  | [d] => { results := [.lit (.bool false)], args := [d] }
  | _ => none }
def FnAppendDoublingScriptWrongFalsely : Prop := fnAppendDoublingScriptRow.holds Trym.pinned (OpenSpec.ofChange fnAppendDoublingScriptWrong)

end Rows
end Go.Proofs.Qxb6600584aMods
