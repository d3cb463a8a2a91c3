/-
  No cell of these rows narrows 'for every input' (looked for: loops, veiled, ifaces, maps, wideKeys, modest, calm, conditions, laid).
  DERIVED. THE GIVEN ROWS OF THIS SEAT. 2 by the template 'for every input the law returns true; each argument reads behind the call as it read before'; 0 by the template 'total and deterministic' (their statements: Qxb6604362aModsTotals.lean).
  GIVEN WITH THE SEED: the statements are not yours to turn. If you find one false, say at which input.
  Laid BY PROGRAM, IN A SANDBOX (cutbox-rows.mjs): the forced cells as the released guide's own fill.sh prints them over the translation 8900bcd0dde9b757… (all of the seat's roots in one cut). By AI agents, Wed Nov 11 2026. No macro, syntax, notation, axiom, sorry.
-/
import Derived.Test.Qxb6604362aModsChecked
import GoSem.Claim
import GoSem.ClaimJoined
import GoSem.ClaimMapViews
import Derived.JoinedTies
import Derived.KernelRfl
namespace Go.Proofs.Qxb6604362aMods
/- THE CELL 'sum', in the pinned program and in every row, IS THE sha256 OF THE DUMP (.gsa) THAT Qxb6604362aModsProg.lean LOADS. Nothing in Lean hashes anything: it is a label: what it is worth is what the hold of that sum in a sandbox is worth. -/
noncomputable def Trym.pinned : Pinned := { name := "qxb6604362amods", sum := "8900bcd0dde9b757761129385039353577b0bb12907f512349067dd36162b607", checked := Trym.checked }
namespace Rows
def none {H : Type} : Left H := { results := [], args := [] }

/-- 'zzlaws_store_b1.FnLetGoOfCountsChunks': WHATEVER THE INPUT: true; the input reads as it did. -/
def fnLetGoOfCountsChunksSpec : ChangeSpec := { name := "fnLetGoOfCountsChunks", fn := fun _ => fun
  | [d1, d2] => { results := [.lit (.bool true)], args := [d1, d2] }
  | _ => none }
def fnLetGoOfCountsChunksRow : OpenClaim := { program := "qxb6604362amods", sum := "8900bcd0dde9b757761129385039353577b0bb12907f512349067dd36162b607", func := "example.com/onceblock/onceblock/zzlaws_store_b1.FnLetGoOfCountsChunks", spec := "fnLetGoOfCountsChunks", make := .lifted ["publicsums"], apart := false }
def FnLetGoOfCountsChunksSaid : Prop := fnLetGoOfCountsChunksRow.holds Trym.pinned (OpenSpec.ofChange fnLetGoOfCountsChunksSpec)

/-- ITS FALSE NEIGHBOUR: 'it returns false'. Refute it at one input. -/
def fnLetGoOfCountsChunksWrong : ChangeSpec := { name := "fnLetGoOfCountsChunks", fn := fun _ => fun
  | [d1, d2] => { results := [.lit (.bool false)], args := [d1, d2] }
  | _ => none }
def FnLetGoOfCountsChunksWrongFalsely : Prop := fnLetGoOfCountsChunksRow.holds Trym.pinned (OpenSpec.ofChange fnLetGoOfCountsChunksWrong)

/-- 'zzlaws_store_b1.FnLetGoOfOneMoreChunk': WHATEVER THE INPUT: true; the input reads as it did. -/
def fnLetGoOfOneMoreChunkSpec : ChangeSpec := { name := "fnLetGoOfOneMoreChunk", fn := fun _ => fun
  | [d1, d2, d3] => { results := [.lit (.bool true)], args := [d1, d2, d3] }
  | _ => none }
def fnLetGoOfOneMoreChunkRow : OpenClaim := { program := "qxb6604362amods", sum := "8900bcd0dde9b757761129385039353577b0bb12907f512349067dd36162b607", func := "example.com/onceblock/onceblock/zzlaws_store_b1.FnLetGoOfOneMoreChunk", spec := "fnLetGoOfOneMoreChunk", make := .lifted ["publicsums"], apart := false }
def FnLetGoOfOneMoreChunkSaid : Prop := fnLetGoOfOneMoreChunkRow.holds Trym.pinned (OpenSpec.ofChange fnLetGoOfOneMoreChunkSpec)

/-- ITS FALSE NEIGHBOUR: 'it returns false'. Refute it at one input. -/
def fnLetGoOfOneMoreChunkWrong : ChangeSpec := { name := "fnLetGoOfOneMoreChunk", fn := fun _ => fun
  | [d1, d2, d3] => { results := [.lit (.bool false)], args := [d1, d2, d3] }
  | _ => none }
def FnLetGoOfOneMoreChunkWrongFalsely : Prop := fnLetGoOfOneMoreChunkRow.holds Trym.pinned (OpenSpec.ofChange fnLetGoOfOneMoreChunkWrong)

end Rows
end Go.Proofs.Qxb6604362aMods
