/-
  No cell of these rows narrows 'for every input' (looked for: loops, veiled, ifaces, maps, wideKeys, modest, calm, conditions, laid).
  DERIVED. THE GIVEN ROWS OF THIS SEAT. 1 by the template 'for every input the law returns true; each argument reads behind the call as it read before'; 0 by the template 'total and deterministic' (their statements: Qxb6604490aModsTotals.lean).
  GIVEN WITH THE SEED: the statements are not yours to turn. If you find one false, say at which input.
  Laid BY PROGRAM, IN A SANDBOX (cutbox-rows.mjs): the forced cells as the released guide's own fill.sh prints them over the translation 78834e2af6acb3d2… (all of the seat's roots in one cut). By AI agents, Wed Nov 11 2026. No macro, syntax, notation, axiom, sorry.
-/
import Derived.Test.Qxb6604490aModsChecked
import GoSem.Claim
import GoSem.ClaimJoined
import GoSem.ClaimMapViews
import Derived.JoinedTies
import Derived.KernelRfl
namespace Go.Proofs.Qxb6604490aMods
/- THE CELL 'sum', in the pinned program and in every row, IS THE sha256 OF THE DUMP (.gsa) THAT Qxb6604490aModsProg.lean LOADS. Nothing in Lean hashes anything: it is a label: what it is worth is what the hold of that sum in a sandbox is worth. -/
noncomputable def Trym.pinned : Pinned := { name := "qxb6604490amods", sum := "78834e2af6acb3d23d5443711ba6fada4c3fd39c137a5927dd69571baa039c63", checked := Trym.checked }
namespace Rows
def none {H : Type} : Left H := { results := [], args := [] }

/-- 'zzlaws_store_b1.FnSessionSameIsAnEquivalenceOnRows': WHATEVER THE INPUT: true; the input reads as it did. -/
def fnSessionSameIsAnEquivalenceOnRowsSpec : ChangeSpec := { name := "fnSessionSameIsAnEquivalenceOnRows", fn := fun _ => fun
  | [d1, d2, d3] => { results := [.lit (.bool true)], args := [d1, d2, d3] }
  | _ => none }
def fnSessionSameIsAnEquivalenceOnRowsRow : OpenClaim := { program := "qxb6604490amods", sum := "78834e2af6acb3d23d5443711ba6fada4c3fd39c137a5927dd69571baa039c63", func := "example.com/covey-hub/covey-hub/zzlaws_store_b1.FnSessionSameIsAnEquivalenceOnRows", spec := "fnSessionSameIsAnEquivalenceOnRows", make := .lifted ["publicsums"], apart := false }
def FnSessionSameIsAnEquivalenceOnRowsSaid : Prop := fnSessionSameIsAnEquivalenceOnRowsRow.holds Trym.pinned (OpenSpec.ofChange fnSessionSameIsAnEquivalenceOnRowsSpec)

/-- ITS FALSE NEIGHBOUR: 'it returns false'. Refute it at one input. -/
def fnSessionSameIsAnEquivalenceOnRowsWrong : ChangeSpec := { name := "fnSessionSameIsAnEquivalenceOnRows", fn := fun _ => fun
  | [d1, d2, d3] => { results := [.lit (.bool false)], args := [d1, d2, d3] }
  | _ => none }
def FnSessionSameIsAnEquivalenceOnRowsWrongFalsely : Prop := fnSessionSameIsAnEquivalenceOnRowsRow.holds Trym.pinned (OpenSpec.ofChange fnSessionSameIsAnEquivalenceOnRowsWrong)

end Rows
end Go.Proofs.Qxb6604490aMods
