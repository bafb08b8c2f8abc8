/-
  No cell of these rows narrows 'for every input' (looked for: loops, veiled, ifaces, maps, wideKeys, modest, calm, conditions, laid).
  DERIVED. THE GIVEN ROWS OF THIS SEAT. 5 by the template 'for every input the law returns true; each argument reads behind the call as it read before'; 0 by the template 'total and deterministic' (their statements: Qxb6604100aModsTotals.lean).
  GIVEN WITH THE SEED: the statements are not yours to turn. If you find one false, say at which input.
  Laid BY PROGRAM, IN A SANDBOX (cutbox-rows.mjs): the forced cells as the released guide's own fill.sh prints them over the translation a2583df5e2001a51… (all of the seat's roots in one cut). By AI agents, Wed Nov 11 2026. No macro, syntax, notation, axiom, sorry.
-/
import Derived.Test.Qxb6604100aModsChecked
import GoSem.Claim
import GoSem.ClaimJoined
import GoSem.ClaimMapViews
import Derived.JoinedTies
import Derived.KernelRfl
namespace Go.Proofs.Qxb6604100aMods
/- THE CELL 'sum', in the pinned program and in every row, IS THE sha256 OF THE DUMP (.gsa) THAT Qxb6604100aModsProg.lean LOADS. Nothing in Lean hashes anything: it is a label: what it is worth is what the hold of that sum in a sandbox is worth. -/
noncomputable def Trym.pinned : Pinned := { name := "qxb6604100amods", sum := "a2583df5e2001a51bcbcfcdc95f67f9384d04e16f1aa878825420edbec40ebd0", checked := Trym.checked }
namespace Rows
def none {H : Type} : Left H := { results := [], args := [] }

/-- 'zzlaws_pkg_manifest_b1.FnAppendStringMatchesEscapeTable': WHATEVER THE INPUT: true; the input reads as it did. -/
def fnAppendStringMatchesEscapeTableSpec : ChangeSpec := { name := "fnAppendStringMatchesEscapeTable", fn := fun _ => fun
  | [d1, d2] => { results := [.lit (.bool true)], args := [d1, d2] }
  | _ => none }
def fnAppendStringMatchesEscapeTableRow : OpenClaim := { program := "qxb6604100amods", sum := "a2583df5e2001a51bcbcfcdc95f67f9384d04e16f1aa878825420edbec40ebd0", func := "example.com/idlewarden/idlewarden/zzlaws_pkg_manifest_b1.FnAppendStringMatchesEscapeTable", spec := "fnAppendStringMatchesEscapeTable", make := .lifted ["publicsums"], apart := false }
def FnAppendStringMatchesEscapeTableSaid : Prop := fnAppendStringMatchesEscapeTableRow.holds Trym.pinned (OpenSpec.ofChange fnAppendStringMatchesEscapeTableSpec)

/-- ITS FALSE NEIGHBOUR: 'it returns false'. Refute it at one input. -/
def fnAppendStringMatchesEscapeTableWrong : ChangeSpec := { name := "fnAppendStringMatchesEscapeTable", fn := fun _ => fun
  | [d1, d2] => { results := [.lit (.bool false)], args := [d1, d2] }
  | _ => none }
def FnAppendStringMatchesEscapeTableWrongFalsely : Prop := fnAppendStringMatchesEscapeTableRow.holds Trym.pinned (OpenSpec.ofChange fnAppendStringMatchesEscapeTableWrong)

/-- 'zzlaws_pkg_manifest_b1.FnAppendStringEscapesPiecewise': WHATEVER THE INPUT: true; the input reads as it did. -/
def fnAppendStringEscapesPiecewiseSpec : ChangeSpec := { name := "fnAppendStringEscapesPiecewise", fn := fun _ => fun
  | [d1, d2] => { results := [.lit (.bool true)], args := [d1, d2] }
  | _ => none }
def fnAppendStringEscapesPiecewiseRow : OpenClaim := { program := "qxb6604100amods", sum := "a2583df5e2001a51bcbcfcdc95f67f9384d04e16f1aa878825420edbec40ebd0", func := "example.com/idlewarden/idlewarden/zzlaws_pkg_manifest_b1.FnAppendStringEscapesPiecewise", spec := "fnAppendStringEscapesPiecewise", make := .lifted ["publicsums"], apart := false }
def FnAppendStringEscapesPiecewiseSaid : Prop := fnAppendStringEscapesPiecewiseRow.holds Trym.pinned (OpenSpec.ofChange fnAppendStringEscapesPiecewiseSpec)

/-- ITS FALSE NEIGHBOUR: 'it returns false'. Refute it at one input. -/
def fnAppendStringEscapesPiecewiseWrong : ChangeSpec := { name := "fnAppendStringEscapesPiecewise", fn := fun _ => fun
  | [d1, d2] => { results := [.lit (.bool false)], args := [d1, d2] }
  | _ => none }
def FnAppendStringEscapesPiecewiseWrongFalsely : Prop := fnAppendStringEscapesPiecewiseRow.holds Trym.pinned (OpenSpec.ofChange fnAppendStringEscapesPiecewiseWrong)

/-- 'zzlaws_pkg_manifest_b1.FnLaidOutMatchesBlankLineModel': WHATEVER THE INPUT: true; the input reads as it did. -/
def fnLaidOutMatchesBlankLineModelSpec : ChangeSpec := { name := "fnLaidOutMatchesBlankLineModel", fn := fun _ => fun
  | [d1, d2] => { results := [.lit (.bool true)], args := [d1, d2] }
  | _ => none }
def fnLaidOutMatchesBlankLineModelRow : OpenClaim := { program := "qxb6604100amods", sum := "a2583df5e2001a51bcbcfcdc95f67f9384d04e16f1aa878825420edbec40ebd0", func := "example.com/idlewarden/idlewarden/zzlaws_pkg_manifest_b1.FnLaidOutMatchesBlankLineModel", spec := "fnLaidOutMatchesBlankLineModel", inPlace := ["internal/bytealg.IndexByte"], make := .lifted ["publicsums"], apart := false }
def FnLaidOutMatchesBlankLineModelSaid : Prop := fnLaidOutMatchesBlankLineModelRow.holds Trym.pinned (OpenSpec.ofChange fnLaidOutMatchesBlankLineModelSpec)

/-- ITS FALSE NEIGHBOUR: 'it returns false'. Refute it at one input. -/
def fnLaidOutMatchesBlankLineModelWrong : ChangeSpec := { name := "fnLaidOutMatchesBlankLineModel", fn := fun _ => fun
  | [d1, d2] => { results := [.lit (.bool false)], args := [d1, d2] }
  | _ => none }
def FnLaidOutMatchesBlankLineModelWrongFalsely : Prop := fnLaidOutMatchesBlankLineModelRow.holds Trym.pinned (OpenSpec.ofChange fnLaidOutMatchesBlankLineModelWrong)

/-- 'zzlaws_pkg_manifest_b1.FnLaidOutOnlyAddsNeededBlankLines': WHATEVER THE INPUT: true; the input reads as it did. -/
def fnLaidOutOnlyAddsNeededBlankLinesSpec : ChangeSpec := { name := "fnLaidOutOnlyAddsNeededBlankLines", fn := fun _ => fun
  | [d1, d2] => { results := [.lit (.bool true)], args := [d1, d2] }
  | _ => none }
def fnLaidOutOnlyAddsNeededBlankLinesRow : OpenClaim := { program := "qxb6604100amods", sum := "a2583df5e2001a51bcbcfcdc95f67f9384d04e16f1aa878825420edbec40ebd0", func := "example.com/idlewarden/idlewarden/zzlaws_pkg_manifest_b1.FnLaidOutOnlyAddsNeededBlankLines", spec := "fnLaidOutOnlyAddsNeededBlankLines", inPlace := ["internal/bytealg.IndexByte"], make := .lifted ["publicsums"], apart := false }
def FnLaidOutOnlyAddsNeededBlankLinesSaid : Prop := fnLaidOutOnlyAddsNeededBlankLinesRow.holds Trym.pinned (OpenSpec.ofChange fnLaidOutOnlyAddsNeededBlankLinesSpec)

/-- ITS FALSE NEIGHBOUR: 'it returns false'. Refute it at one input. -/
def fnLaidOutOnlyAddsNeededBlankLinesWrong : ChangeSpec := { name := "fnLaidOutOnlyAddsNeededBlankLines", fn := fun _ => fun
  | [d1, d2] => { results := [.lit (.bool false)], args := [d1, d2] }
  | _ => none }
def FnLaidOutOnlyAddsNeededBlankLinesWrongFalsely : Prop := fnLaidOutOnlyAddsNeededBlankLinesRow.holds Trym.pinned (OpenSpec.ofChange fnLaidOutOnlyAddsNeededBlankLinesWrong)

/-- 'zzlaws_pkg_manifest_b1.FnAppendStringDecodesBack': WHATEVER THE INPUT: true; the input reads as it did. -/
def fnAppendStringDecodesBackSpec : ChangeSpec := { name := "fnAppendStringDecodesBack", fn := fun _ => fun
  | [d1, d2] => { results := [.lit (.bool true)], args := [d1, d2] }
  | _ => none }
def fnAppendStringDecodesBackRow : OpenClaim := { program := "qxb6604100amods", sum := "a2583df5e2001a51bcbcfcdc95f67f9384d04e16f1aa878825420edbec40ebd0", func := "example.com/idlewarden/idlewarden/zzlaws_pkg_manifest_b1.FnAppendStringDecodesBack", spec := "fnAppendStringDecodesBack", make := .lifted ["publicsums"], apart := false }
def FnAppendStringDecodesBackSaid : Prop := fnAppendStringDecodesBackRow.holds Trym.pinned (OpenSpec.ofChange fnAppendStringDecodesBackSpec)

/-- ITS FALSE NEIGHBOUR: 'it returns false'. Refute it at one input. -/
def fnAppendStringDecodesBackWrong : ChangeSpec := { name := "fnAppendStringDecodesBack", fn := fun _ => fun
  | [d1, d2] => { results := [.lit (.bool false)], args := [d1, d2] }
  | _ => none }
def FnAppendStringDecodesBackWrongFalsely : Prop := fnAppendStringDecodesBackRow.holds Trym.pinned (OpenSpec.ofChange fnAppendStringDecodesBackWrong)

end Rows
end Go.Proofs.Qxb6604100aMods
