/-
  No cell of these rows narrows 'for every input' (looked for: loops, veiled, ifaces, maps, wideKeys, modest, calm, conditions, laid).
  DERIVED. THE GIVEN ROWS OF THIS SEAT. 5 by the template 'for every input the law returns true; each argument reads behind the call as it read before'; 0 by the template 'total and deterministic' (their statements: Qxb6604480aModsTotals.lean).
  GIVEN WITH THE SEED: the statements are not yours to turn. If you find one false, say at which input.
  Laid BY PROGRAM, IN A SANDBOX (cutbox-rows.mjs): the forced cells as the released guide's own fill.sh prints them over the translation de2866d87d334107… (all of the seat's roots in one cut). By AI agents, Wed Nov 11 2026. No macro, syntax, notation, axiom, sorry.
-/
import Derived.Test.Qxb6604480aModsChecked
import GoSem.Claim
import GoSem.ClaimJoined
import GoSem.ClaimMapViews
import Derived.JoinedTies
import Derived.KernelRfl
namespace Go.Proofs.Qxb6604480aMods
/- THE CELL 'sum', in the pinned program and in every row, IS THE sha256 OF THE DUMP (.gsa) THAT Qxb6604480aModsProg.lean LOADS. Nothing in Lean hashes anything: it is a label: what it is worth is what the hold of that sum in a sandbox is worth. -/
noncomputable def Trym.pinned : Pinned := { name := "qxb6604480amods", sum := "de2866d87d33410787c45c86fff1f303832d5b80002a4b2863becb30bb5fb4c7", checked := Trym.checked }
namespace Rows
def none {H : Type} : Left H := { results := [], args := [] }

/-- 'zzlaws_root_b1.FnIsHexDigitMatchesDigitTable': WHATEVER THE INPUT: true; the input reads as it did. -/
def fnIsHexDigitMatchesDigitTableSpec : ChangeSpec := { name := "fnIsHexDigitMatchesDigitTable", fn := fun _ => fun
  | [d] => { results := [.lit (.bool true)], args := [d] }
  | _ => none }
def fnIsHexDigitMatchesDigitTableRow : OpenClaim := { program := "qxb6604480amods", sum := "de2866d87d33410787c45c86fff1f303832d5b80002a4b2863becb30bb5fb4c7", func := "example.com/cohortal/cohortal/zzlaws_root_b1.FnIsHexDigitMatchesDigitTable", spec := "fnIsHexDigitMatchesDigitTable", make := .lifted ["publicsums"], apart := false }
def FnIsHexDigitMatchesDigitTableSaid : Prop := fnIsHexDigitMatchesDigitTableRow.holds Trym.pinned (OpenSpec.ofChange fnIsHexDigitMatchesDigitTableSpec)

/-- ITS FALSE NEIGHBOUR: 'it returns false'. Refute it at one input. -/
def fnIsHexDigitMatchesDigitTableWrong : ChangeSpec := { name := "fnIsHexDigitMatchesDigitTable", fn := fun _ => fun
  | [d] => { results := [.lit (.bool false)], args := [d] }
  | _ => none }
def FnIsHexDigitMatchesDigitTableWrongFalsely : Prop := fnIsHexDigitMatchesDigitTableRow.holds Trym.pinned (OpenSpec.ofChange fnIsHexDigitMatchesDigitTableWrong)

/-- 'zzlaws_root_b1.FnIsHexDigitCountInRange': WHATEVER THE INPUT: true; the input reads as it did. -/
def fnIsHexDigitCountInRangeSpec : ChangeSpec := { name := "fnIsHexDigitCountInRange", fn := fun _ => fun
  | [d1, d2] => { results := [.lit (.bool true)], args := [d1, d2] }
  | _ => none }
def fnIsHexDigitCountInRangeRow : OpenClaim := { program := "qxb6604480amods", sum := "de2866d87d33410787c45c86fff1f303832d5b80002a4b2863becb30bb5fb4c7", func := "example.com/cohortal/cohortal/zzlaws_root_b1.FnIsHexDigitCountInRange", spec := "fnIsHexDigitCountInRange", make := .lifted ["publicsums"], apart := false }
def FnIsHexDigitCountInRangeSaid : Prop := fnIsHexDigitCountInRangeRow.holds Trym.pinned (OpenSpec.ofChange fnIsHexDigitCountInRangeSpec)

/-- ITS FALSE NEIGHBOUR: 'it returns false'. Refute it at one input. -/
def fnIsHexDigitCountInRangeWrong : ChangeSpec := { name := "fnIsHexDigitCountInRange", fn := fun _ => fun
  | [d1, d2] => { results := [.lit (.bool false)], args := [d1, d2] }
  | _ => none }
def FnIsHexDigitCountInRangeWrongFalsely : Prop := fnIsHexDigitCountInRangeRow.holds Trym.pinned (OpenSpec.ofChange fnIsHexDigitCountInRangeWrong)

/-- 'zzlaws_root_b1.FnQuietDecidedIncarnationByIncarnation': WHATEVER THE INPUT: true; the input reads as it did. -/
def fnQuietDecidedIncarnationByIncarnationSpec : ChangeSpec := { name := "fnQuietDecidedIncarnationByIncarnation", fn := fun _ => fun
  | [d1, d2] => { results := [.lit (.bool true)], args := [d1, d2] }
  | _ => none }
def fnQuietDecidedIncarnationByIncarnationRow : OpenClaim := { program := "qxb6604480amods", sum := "de2866d87d33410787c45c86fff1f303832d5b80002a4b2863becb30bb5fb4c7", func := "example.com/cohortal/cohortal/zzlaws_root_b1.FnQuietDecidedIncarnationByIncarnation", spec := "fnQuietDecidedIncarnationByIncarnation", unfollowed := true, recurses := true, make := .lifted ["publicsums"], apart := false }
def FnQuietDecidedIncarnationByIncarnationSaid : Prop := fnQuietDecidedIncarnationByIncarnationRow.holds Trym.pinned (OpenSpec.ofChange fnQuietDecidedIncarnationByIncarnationSpec)

/-- ITS FALSE NEIGHBOUR: 'it returns false'. Refute it at one input. -/
def fnQuietDecidedIncarnationByIncarnationWrong : ChangeSpec := { name := "fnQuietDecidedIncarnationByIncarnation", fn := fun _ => fun
  | [d1, d2] => { results := [.lit (.bool false)], args := [d1, d2] }
  | _ => none }
def FnQuietDecidedIncarnationByIncarnationWrongFalsely : Prop := fnQuietDecidedIncarnationByIncarnationRow.holds Trym.pinned (OpenSpec.ofChange fnQuietDecidedIncarnationByIncarnationWrong)

/-- 'zzlaws_root_b1.FnOrderedSetAddMatchesFirstSeenList': WHATEVER THE INPUT: true; the input reads as it did. -/
def fnOrderedSetAddMatchesFirstSeenListSpec : ChangeSpec := { name := "fnOrderedSetAddMatchesFirstSeenList", fn := fun _ => fun
  | [d] => { results := [.lit (.bool true)], args := [d] }
  | _ => none }
def fnOrderedSetAddMatchesFirstSeenListRow : OpenClaim := { program := "qxb6604480amods", sum := "de2866d87d33410787c45c86fff1f303832d5b80002a4b2863becb30bb5fb4c7", func := "example.com/cohortal/cohortal/zzlaws_root_b1.FnOrderedSetAddMatchesFirstSeenList", spec := "fnOrderedSetAddMatchesFirstSeenList", make := .lifted ["publicsums"], apart := false }
def FnOrderedSetAddMatchesFirstSeenListSaid : Prop := fnOrderedSetAddMatchesFirstSeenListRow.holds Trym.pinned (OpenSpec.ofChange fnOrderedSetAddMatchesFirstSeenListSpec)

/-- ITS FALSE NEIGHBOUR: 'it returns false'. Refute it at one input. -/
def fnOrderedSetAddMatchesFirstSeenListWrong : ChangeSpec := { name := "fnOrderedSetAddMatchesFirstSeenList", fn := fun _ => fun
  | [d] => { results := [.lit (.bool false)], args := [d] }
  | _ => none }
def FnOrderedSetAddMatchesFirstSeenListWrongFalsely : Prop := fnOrderedSetAddMatchesFirstSeenListRow.holds Trym.pinned (OpenSpec.ofChange fnOrderedSetAddMatchesFirstSeenListWrong)

/-- 'zzlaws_root_b1.FnOrderedSetPlacesPointBackAndReAddChangesNothing': WHATEVER THE INPUT: true; the input reads as it did. -/
def fnOrderedSetPlacesPointBackAndReAddChangesNothingSpec : ChangeSpec := { name := "fnOrderedSetPlacesPointBackAndReAddChangesNothing", fn := fun _ => fun
  | [d] => { results := [.lit (.bool true)], args := [d] }
  | _ => none }
def fnOrderedSetPlacesPointBackAndReAddChangesNothingRow : OpenClaim := { program := "qxb6604480amods", sum := "de2866d87d33410787c45c86fff1f303832d5b80002a4b2863becb30bb5fb4c7", func := "example.com/cohortal/cohortal/zzlaws_root_b1.FnOrderedSetPlacesPointBackAndReAddChangesNothing", spec := "fnOrderedSetPlacesPointBackAndReAddChangesNothing", make := .lifted ["publicsums"], apart := false }
def FnOrderedSetPlacesPointBackAndReAddChangesNothingSaid : Prop := fnOrderedSetPlacesPointBackAndReAddChangesNothingRow.holds Trym.pinned (OpenSpec.ofChange fnOrderedSetPlacesPointBackAndReAddChangesNothingSpec)

/-- ITS FALSE NEIGHBOUR: 'it returns false'. Refute it at one input. -/
def fnOrderedSetPlacesPointBackAndReAddChangesNothingWrong : ChangeSpec := { name := "fnOrderedSetPlacesPointBackAndReAddChangesNothing", fn := fun _ => fun
  | [d] => { results := [.lit (.bool false)], args := [d] }
  | _ => none }
def FnOrderedSetPlacesPointBackAndReAddChangesNothingWrongFalsely : Prop := fnOrderedSetPlacesPointBackAndReAddChangesNothingRow.holds Trym.pinned (OpenSpec.ofChange fnOrderedSetPlacesPointBackAndReAddChangesNothingWrong)

end Rows
end Go.Proofs.Qxb6604480aMods
