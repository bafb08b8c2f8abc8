/-
  No cell of these rows narrows 'for every input' (looked for: loops, veiled, ifaces, maps, wideKeys, modest, calm, conditions, laid).
  DERIVED. THE GIVEN ROWS OF THIS SEAT. 5 by the template 'for every input the law returns true; each argument reads behind the call as it read before'; 0 by the template 'total and deterministic' (their statements: Qxb6603171aModsTotals.lean).
  GIVEN WITH THE SEED: the statements are not yours to turn. If you find one false, say at which input.
  Laid BY PROGRAM, IN A SANDBOX (cutbox-rows.mjs): the forced cells as the released guide's own fill.sh prints them over the translation 797dc154f00d27b9… (all of the seat's roots in one cut). By AI agents, Wed Nov 11 2026. No macro, syntax, notation, axiom, sorry.
-/
import Derived.Test.Qxb6603171aModsChecked
import GoSem.Claim
import GoSem.ClaimJoined
import GoSem.ClaimMapViews
import Derived.JoinedTies
import Derived.KernelRfl
namespace Go.Proofs.Qxb6603171aMods
/- THE CELL 'sum', in the pinned program and in every row, IS THE sha256 OF THE DUMP (.gsa) THAT Qxb6603171aModsProg.lean LOADS. Nothing in Lean hashes anything: it is a label: what it is worth is what the hold of that sum in a sandbox is worth. -/
noncomputable def Trym.pinned : Pinned := { name := "qxb6603171amods", sum := "797dc154f00d27b948d2942a49c8f7182def232865050bfc095f23df80f67e96", checked := Trym.checked }
namespace Rows
def none {H : Type} : Left H := { results := [], args := [] }

/-- 'zzlaws_root_b1.FnUnescapeMatchesRepeatedWholePasses': WHATEVER THE INPUT: true; the input reads as it did. -/
def fnUnescapeMatchesRepeatedWholePassesSpec : ChangeSpec := { name := "fnUnescapeMatchesRepeatedWholePasses", fn := fun _ => fun
  | [d] => { results := [.lit (.bool true)], args := [d] }
  | _ => none }
def fnUnescapeMatchesRepeatedWholePassesRow : OpenClaim := { program := "qxb6603171amods", sum := "797dc154f00d27b948d2942a49c8f7182def232865050bfc095f23df80f67e96", func := "example.com/hashwarden/hashwarden/zzlaws_root_b1.FnUnescapeMatchesRepeatedWholePasses", spec := "fnUnescapeMatchesRepeatedWholePasses", inPlace := ["internal/bytealg.IndexByteString"], make := .lifted ["publicsums"], apart := false }
def FnUnescapeMatchesRepeatedWholePassesSaid : Prop := fnUnescapeMatchesRepeatedWholePassesRow.holds Trym.pinned (OpenSpec.ofChange fnUnescapeMatchesRepeatedWholePassesSpec)

/-- ITS FALSE NEIGHBOUR: 'it returns false'. Refute it at one input. -/
def fnUnescapeMatchesRepeatedWholePassesWrong : ChangeSpec := { name := "fnUnescapeMatchesRepeatedWholePasses", fn := fun _ => fun
  | [d] => { results := [.lit (.bool false)], args := [d] }
  | _ => none }
def FnUnescapeMatchesRepeatedWholePassesWrongFalsely : Prop := fnUnescapeMatchesRepeatedWholePassesRow.holds Trym.pinned (OpenSpec.ofChange fnUnescapeMatchesRepeatedWholePassesWrong)

/-- 'zzlaws_root_b1.FnUnescapeLeavesNoEscapeAndIsIdempotent': WHATEVER THE INPUT: true; the input reads as it did. -/
def fnUnescapeLeavesNoEscapeAndIsIdempotentSpec : ChangeSpec := { name := "fnUnescapeLeavesNoEscapeAndIsIdempotent", fn := fun _ => fun
  | [d] => { results := [.lit (.bool true)], args := [d] }
  | _ => none }
def fnUnescapeLeavesNoEscapeAndIsIdempotentRow : OpenClaim := { program := "qxb6603171amods", sum := "797dc154f00d27b948d2942a49c8f7182def232865050bfc095f23df80f67e96", func := "example.com/hashwarden/hashwarden/zzlaws_root_b1.FnUnescapeLeavesNoEscapeAndIsIdempotent", spec := "fnUnescapeLeavesNoEscapeAndIsIdempotent", inPlace := ["internal/bytealg.IndexByteString"], make := .lifted ["publicsums"], apart := false }
def FnUnescapeLeavesNoEscapeAndIsIdempotentSaid : Prop := fnUnescapeLeavesNoEscapeAndIsIdempotentRow.holds Trym.pinned (OpenSpec.ofChange fnUnescapeLeavesNoEscapeAndIsIdempotentSpec)

/-- ITS FALSE NEIGHBOUR: 'it returns false'. Refute it at one input. -/
def fnUnescapeLeavesNoEscapeAndIsIdempotentWrong : ChangeSpec := { name := "fnUnescapeLeavesNoEscapeAndIsIdempotent", fn := fun _ => fun
  | [d] => { results := [.lit (.bool false)], args := [d] }
  | _ => none }
def FnUnescapeLeavesNoEscapeAndIsIdempotentWrongFalsely : Prop := fnUnescapeLeavesNoEscapeAndIsIdempotentRow.holds Trym.pinned (OpenSpec.ofChange fnUnescapeLeavesNoEscapeAndIsIdempotentWrong)

/-- 'zzlaws_root_b1.FnUnescapeUndoesEscaping': WHATEVER THE INPUT: true; the input reads as it did. -/
def fnUnescapeUndoesEscapingSpec : ChangeSpec := { name := "fnUnescapeUndoesEscaping", fn := fun _ => fun
  | [d] => { results := [.lit (.bool true)], args := [d] }
  | _ => none }
def fnUnescapeUndoesEscapingRow : OpenClaim := { program := "qxb6603171amods", sum := "797dc154f00d27b948d2942a49c8f7182def232865050bfc095f23df80f67e96", func := "example.com/hashwarden/hashwarden/zzlaws_root_b1.FnUnescapeUndoesEscaping", spec := "fnUnescapeUndoesEscaping", inPlace := ["internal/bytealg.IndexByteString"], make := .lifted ["publicsums"], apart := false }
def FnUnescapeUndoesEscapingSaid : Prop := fnUnescapeUndoesEscapingRow.holds Trym.pinned (OpenSpec.ofChange fnUnescapeUndoesEscapingSpec)

/-- ITS FALSE NEIGHBOUR: 'it returns false'. Refute it at one input. -/
def fnUnescapeUndoesEscapingWrong : ChangeSpec := { name := "fnUnescapeUndoesEscaping", fn := fun _ => fun
  | [d] => { results := [.lit (.bool false)], args := [d] }
  | _ => none }
def FnUnescapeUndoesEscapingWrongFalsely : Prop := fnUnescapeUndoesEscapingRow.holds Trym.pinned (OpenSpec.ofChange fnUnescapeUndoesEscapingWrong)

/-- 'zzlaws_root_b1.FnPathsBoundedDistinctPrefixes': WHATEVER THE INPUT: true; the input reads as it did. -/
def fnPathsBoundedDistinctPrefixesSpec : ChangeSpec := { name := "fnPathsBoundedDistinctPrefixes", fn := fun _ => fun
  | [d] => { results := [.lit (.bool true)], args := [d] }
  | _ => none }
def fnPathsBoundedDistinctPrefixesRow : OpenClaim := { program := "qxb6603171amods", sum := "797dc154f00d27b948d2942a49c8f7182def232865050bfc095f23df80f67e96", func := "example.com/hashwarden/hashwarden/zzlaws_root_b1.FnPathsBoundedDistinctPrefixes", spec := "fnPathsBoundedDistinctPrefixes", inPlace := ["internal/bytealg.IndexByteString", "internal/bytealg.IndexString"], named := ["internal/bytealg.MaxLen"], make := .lifted ["publicsums"], apart := false }
def FnPathsBoundedDistinctPrefixesSaid : Prop := fnPathsBoundedDistinctPrefixesRow.holds Trym.pinned (OpenSpec.ofChange fnPathsBoundedDistinctPrefixesSpec)

/-- ITS FALSE NEIGHBOUR: 'it returns false'. Refute it at one input. -/
def fnPathsBoundedDistinctPrefixesWrong : ChangeSpec := { name := "fnPathsBoundedDistinctPrefixes", fn := fun _ => fun
  | [d] => { results := [.lit (.bool false)], args := [d] }
  | _ => none }
def FnPathsBoundedDistinctPrefixesWrongFalsely : Prop := fnPathsBoundedDistinctPrefixesRow.holds Trym.pinned (OpenSpec.ofChange fnPathsBoundedDistinctPrefixesWrong)

/-- 'zzlaws_root_b1.FnPathsQueryOnlyAddsItself': WHATEVER THE INPUT: true; the input reads as it did. -/
def fnPathsQueryOnlyAddsItselfSpec : ChangeSpec := { name := "fnPathsQueryOnlyAddsItself", fn := fun _ => fun
  | [d1, d2] => { results := [.lit (.bool true)], args := [d1, d2] }
  | _ => none }
def fnPathsQueryOnlyAddsItselfRow : OpenClaim := { program := "qxb6603171amods", sum := "797dc154f00d27b948d2942a49c8f7182def232865050bfc095f23df80f67e96", func := "example.com/hashwarden/hashwarden/zzlaws_root_b1.FnPathsQueryOnlyAddsItself", spec := "fnPathsQueryOnlyAddsItself", inPlace := ["internal/bytealg.IndexByteString", "internal/bytealg.IndexString"], named := ["internal/bytealg.MaxLen"], make := .lifted ["publicsums"], apart := false }
def FnPathsQueryOnlyAddsItselfSaid : Prop := fnPathsQueryOnlyAddsItselfRow.holds Trym.pinned (OpenSpec.ofChange fnPathsQueryOnlyAddsItselfSpec)

/-- ITS FALSE NEIGHBOUR: 'it returns false'. Refute it at one input. -/
def fnPathsQueryOnlyAddsItselfWrong : ChangeSpec := { name := "fnPathsQueryOnlyAddsItself", fn := fun _ => fun
  | [d1, d2] => { results := [.lit (.bool false)], args := [d1, d2] }
  | _ => none }
def FnPathsQueryOnlyAddsItselfWrongFalsely : Prop := fnPathsQueryOnlyAddsItselfRow.holds Trym.pinned (OpenSpec.ofChange fnPathsQueryOnlyAddsItselfWrong)

end Rows
end Go.Proofs.Qxb6603171aMods
