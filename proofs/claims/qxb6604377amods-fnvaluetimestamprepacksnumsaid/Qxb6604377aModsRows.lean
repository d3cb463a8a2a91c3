/-
  No cell of these rows narrows 'for every input' (looked for: loops, veiled, ifaces, maps, wideKeys, modest, calm, conditions, laid).
  DERIVED. THE GIVEN ROWS OF THIS SEAT. 6 by the template 'for every input the law returns true; each argument reads behind the call as it read before'; 0 by the template 'total and deterministic' (their statements: Qxb6604377aModsTotals.lean).
  GIVEN WITH THE SEED: the statements are not yours to turn. If you find one false, say at which input.
  Laid BY PROGRAM, IN A SANDBOX (cutbox-rows.mjs): the forced cells as the released guide's own fill.sh prints them over the translation 4da8281256972436… (all of the seat's roots in one cut). By AI agents, Wed Nov 11 2026. No macro, syntax, notation, axiom, sorry.
-/
import Derived.Test.Qxb6604377aModsChecked
import GoSem.Claim
import GoSem.ClaimJoined
import GoSem.ClaimMapViews
import Derived.JoinedTies
import Derived.KernelRfl
namespace Go.Proofs.Qxb6604377aMods
/- THE CELL 'sum', in the pinned program and in every row, IS THE sha256 OF THE DUMP (.gsa) THAT Qxb6604377aModsProg.lean LOADS. Nothing in Lean hashes anything: it is a label: what it is worth is what the hold of that sum in a sandbox is worth. -/
noncomputable def Trym.pinned : Pinned := { name := "qxb6604377amods", sum := "4da828125697243607ce8441b6c7947d6820676bd9f96eb5bf667d3309e7f71d", checked := Trym.checked }
namespace Rows
def none {H : Type} : Left H := { results := [], args := [] }

/-- 'zzlaws_binlog_b1.FnGTIDSetIndexCountsSmaller': WHATEVER THE INPUT: true; the input reads as it did. -/
def fnGTIDSetIndexCountsSmallerSpec : ChangeSpec := { name := "fnGTIDSetIndexCountsSmaller", fn := fun _ => fun
  | [d1, d2] => { results := [.lit (.bool true)], args := [d1, d2] }
  | _ => none }
def fnGTIDSetIndexCountsSmallerRow : OpenClaim := { program := "qxb6604377amods", sum := "4da828125697243607ce8441b6c7947d6820676bd9f96eb5bf667d3309e7f71d", func := "example.com/rivulet/rivulet/zzlaws_binlog_b1.FnGTIDSetIndexCountsSmaller", spec := "fnGTIDSetIndexCountsSmaller", inPlace := ["internal/bytealg.Compare"], unfollowed := true, recurses := true, make := .lifted ["publicsums"], apart := false }
def FnGTIDSetIndexCountsSmallerSaid : Prop := fnGTIDSetIndexCountsSmallerRow.holds Trym.pinned (OpenSpec.ofChange fnGTIDSetIndexCountsSmallerSpec)

/-- ITS FALSE NEIGHBOUR: 'it returns false'. Refute it at one input. -/
def fnGTIDSetIndexCountsSmallerWrong : ChangeSpec := { name := "fnGTIDSetIndexCountsSmaller", fn := fun _ => fun
  | [d1, d2] => { results := [.lit (.bool false)], args := [d1, d2] }
  | _ => none }
def FnGTIDSetIndexCountsSmallerWrongFalsely : Prop := fnGTIDSetIndexCountsSmallerRow.holds Trym.pinned (OpenSpec.ofChange fnGTIDSetIndexCountsSmallerWrong)

/-- 'zzlaws_binlog_b1.FnGTIDSetIndexFindsMembers': WHATEVER THE INPUT: true; the input reads as it did. -/
def fnGTIDSetIndexFindsMembersSpec : ChangeSpec := { name := "fnGTIDSetIndexFindsMembers", fn := fun _ => fun
  | [d1, d2] => { results := [.lit (.bool true)], args := [d1, d2] }
  | _ => none }
def fnGTIDSetIndexFindsMembersRow : OpenClaim := { program := "qxb6604377amods", sum := "4da828125697243607ce8441b6c7947d6820676bd9f96eb5bf667d3309e7f71d", func := "example.com/rivulet/rivulet/zzlaws_binlog_b1.FnGTIDSetIndexFindsMembers", spec := "fnGTIDSetIndexFindsMembers", inPlace := ["internal/bytealg.Compare"], unfollowed := true, recurses := true, make := .lifted ["publicsums"], apart := false }
def FnGTIDSetIndexFindsMembersSaid : Prop := fnGTIDSetIndexFindsMembersRow.holds Trym.pinned (OpenSpec.ofChange fnGTIDSetIndexFindsMembersSpec)

/-- ITS FALSE NEIGHBOUR: 'it returns false'. Refute it at one input. -/
def fnGTIDSetIndexFindsMembersWrong : ChangeSpec := { name := "fnGTIDSetIndexFindsMembers", fn := fun _ => fun
  | [d1, d2] => { results := [.lit (.bool false)], args := [d1, d2] }
  | _ => none }
def FnGTIDSetIndexFindsMembersWrongFalsely : Prop := fnGTIDSetIndexFindsMembersRow.holds Trym.pinned (OpenSpec.ofChange fnGTIDSetIndexFindsMembersWrong)

/-- 'zzlaws_binlog_b1.FnValueFloat64DecodesBits': WHATEVER THE INPUT: true; the input reads as it did. -/
def fnValueFloat64DecodesBitsSpec : ChangeSpec := { name := "fnValueFloat64DecodesBits", fn := fun _ => fun
  | [d] => { results := [.lit (.bool true)], args := [d] }
  | _ => none }
def fnValueFloat64DecodesBitsRow : OpenClaim := { program := "qxb6604377amods", sum := "4da828125697243607ce8441b6c7947d6820676bd9f96eb5bf667d3309e7f71d", func := "example.com/rivulet/rivulet/zzlaws_binlog_b1.FnValueFloat64DecodesBits", spec := "fnValueFloat64DecodesBits", inPlace := ["math.Float64frombits"], make := .lifted ["publicsums"], apart := false }
def FnValueFloat64DecodesBitsSaid : Prop := fnValueFloat64DecodesBitsRow.holds Trym.pinned (OpenSpec.ofChange fnValueFloat64DecodesBitsSpec)

/-- ITS FALSE NEIGHBOUR: 'it returns false'. Refute it at one input. -/
def fnValueFloat64DecodesBitsWrong : ChangeSpec := { name := "fnValueFloat64DecodesBits", fn := fun _ => fun
  | [d] => { results := [.lit (.bool false)], args := [d] }
  | _ => none }
def FnValueFloat64DecodesBitsWrongFalsely : Prop := fnValueFloat64DecodesBitsRow.holds Trym.pinned (OpenSpec.ofChange fnValueFloat64DecodesBitsWrong)

/-- 'zzlaws_binlog_b1.FnValueFloat64OrderFollowsBits': WHATEVER THE INPUT: true; the input reads as it did. -/
def fnValueFloat64OrderFollowsBitsSpec : ChangeSpec := { name := "fnValueFloat64OrderFollowsBits", fn := fun _ => fun
  | [d1, d2] => { results := [.lit (.bool true)], args := [d1, d2] }
  | _ => none }
def fnValueFloat64OrderFollowsBitsRow : OpenClaim := { program := "qxb6604377amods", sum := "4da828125697243607ce8441b6c7947d6820676bd9f96eb5bf667d3309e7f71d", func := "example.com/rivulet/rivulet/zzlaws_binlog_b1.FnValueFloat64OrderFollowsBits", spec := "fnValueFloat64OrderFollowsBits", inPlace := ["math.Float64frombits"], make := .lifted ["publicsums"], apart := false }
def FnValueFloat64OrderFollowsBitsSaid : Prop := fnValueFloat64OrderFollowsBitsRow.holds Trym.pinned (OpenSpec.ofChange fnValueFloat64OrderFollowsBitsSpec)

/-- ITS FALSE NEIGHBOUR: 'it returns false'. Refute it at one input. -/
def fnValueFloat64OrderFollowsBitsWrong : ChangeSpec := { name := "fnValueFloat64OrderFollowsBits", fn := fun _ => fun
  | [d1, d2] => { results := [.lit (.bool false)], args := [d1, d2] }
  | _ => none }
def FnValueFloat64OrderFollowsBitsWrongFalsely : Prop := fnValueFloat64OrderFollowsBitsRow.holds Trym.pinned (OpenSpec.ofChange fnValueFloat64OrderFollowsBitsWrong)

/-- 'zzlaws_binlog_b1.FnValueTimestampRepacksNum': WHATEVER THE INPUT: true; the input reads as it did. -/
def fnValueTimestampRepacksNumSpec : ChangeSpec := { name := "fnValueTimestampRepacksNum", fn := fun _ => fun
  | [d] => { results := [.lit (.bool true)], args := [d] }
  | _ => none }
def fnValueTimestampRepacksNumRow : OpenClaim := { program := "qxb6604377amods", sum := "4da828125697243607ce8441b6c7947d6820676bd9f96eb5bf667d3309e7f71d", func := "example.com/rivulet/rivulet/zzlaws_binlog_b1.FnValueTimestampRepacksNum", spec := "fnValueTimestampRepacksNum", make := .lifted ["publicsums"], apart := false }
def FnValueTimestampRepacksNumSaid : Prop := fnValueTimestampRepacksNumRow.holds Trym.pinned (OpenSpec.ofChange fnValueTimestampRepacksNumSpec)

/-- ITS FALSE NEIGHBOUR: 'it returns false'. Refute it at one input. -/
def fnValueTimestampRepacksNumWrong : ChangeSpec := { name := "fnValueTimestampRepacksNum", fn := fun _ => fun
  | [d] => { results := [.lit (.bool false)], args := [d] }
  | _ => none }
def FnValueTimestampRepacksNumWrongFalsely : Prop := fnValueTimestampRepacksNumRow.holds Trym.pinned (OpenSpec.ofChange fnValueTimestampRepacksNumWrong)

/-- 'zzlaws_binlog_b1.FnValueTimestampInjectiveAndKinded': WHATEVER THE INPUT: true; the input reads as it did. -/
def fnValueTimestampInjectiveAndKindedSpec : ChangeSpec := { name := "fnValueTimestampInjectiveAndKinded", fn := fun _ => fun
  | [d1, d2] => { results := [.lit (.bool true)], args := [d1, d2] }
  | _ => none }
def fnValueTimestampInjectiveAndKindedRow : OpenClaim := { program := "qxb6604377amods", sum := "4da828125697243607ce8441b6c7947d6820676bd9f96eb5bf667d3309e7f71d", func := "example.com/rivulet/rivulet/zzlaws_binlog_b1.FnValueTimestampInjectiveAndKinded", spec := "fnValueTimestampInjectiveAndKinded", inPlace := ["math.Float64frombits"], make := .lifted ["publicsums"], apart := false }
def FnValueTimestampInjectiveAndKindedSaid : Prop := fnValueTimestampInjectiveAndKindedRow.holds Trym.pinned (OpenSpec.ofChange fnValueTimestampInjectiveAndKindedSpec)

/-- ITS FALSE NEIGHBOUR: 'it returns false'. Refute it at one input. -/
def fnValueTimestampInjectiveAndKindedWrong : ChangeSpec := { name := "fnValueTimestampInjectiveAndKinded", fn := fun _ => fun
  | [d1, d2] => { results := [.lit (.bool false)], args := [d1, d2] }
  | _ => none }
def FnValueTimestampInjectiveAndKindedWrongFalsely : Prop := fnValueTimestampInjectiveAndKindedRow.holds Trym.pinned (OpenSpec.ofChange fnValueTimestampInjectiveAndKindedWrong)

end Rows
end Go.Proofs.Qxb6604377aMods
