/-
  No cell of these rows narrows 'for every input' (looked for: loops, veiled, ifaces, maps, wideKeys, modest, calm, conditions, laid).
  DERIVED. THE GIVEN ROWS OF THIS SEAT. 4 by the template 'for every input the law returns true; each argument reads behind the call as it read before'; 0 by the template 'total and deterministic' (their statements: Qxb6001620aModsTotals.lean).
  GIVEN WITH THE SEED: the statements are not yours to turn. If you find one false, say at which input.
  Laid BY PROGRAM, IN A SANDBOX (cutbox-rows.mjs): the forced cells as the released guide's own fill.sh prints them over the translation 439d6b94bfef950a… (all of the seat's roots in one cut). By AI agents, Wed Nov 11 2026. No macro, syntax, notation, axiom, sorry.
-/
import Derived.Test.Qxb6001620aModsChecked
import GoSem.Claim
import GoSem.ClaimJoined
import GoSem.ClaimMapViews
import Derived.JoinedTies
import Derived.KernelRfl
namespace Go.Proofs.Qxb6001620aMods
/- THE CELL 'sum', in the pinned program and in every row, IS THE sha256 OF THE DUMP (.gsa) THAT Qxb6001620aModsProg.lean LOADS. Nothing in Lean hashes anything: it is a label: what it is worth is what the hold of that sum in a sandbox is worth. -/
noncomputable def Trym.pinned : Pinned := { name := "qxb6001620amods", sum := "439d6b94bfef950a3baebfc76358f4e3a297d392e20964e86bb29966cd2d3f91", checked := Trym.checked }
namespace Rows
def none {H : Type} : Left H := { results := [], args := [] }

/-- 'zzlaws_partition_b1.FnCutRoundTrip': WHATEVER THE INPUT: true; the input reads as it did. -/
def fnCutRoundTripSpec : ChangeSpec := { name := "fnCutRoundTrip", fn := fun _ => fun
  | [d1, d2, d3] => { results := [.lit (.bool true)], args := [d1, d2, d3] }
  | _ => none }
def fnCutRoundTripRow : OpenClaim := { program := "qxb6001620amods", sum := "439d6b94bfef950a3baebfc76358f4e3a297d392e20964e86bb29966cd2d3f91", func := "example.com/spoold/spoold/zzlaws_partition_b1.FnCutRoundTrip", spec := "fnCutRoundTrip", plainKeys := false, make := .lifted ["publicsums"], apart := false }
def FnCutRoundTripSaid : Prop := fnCutRoundTripRow.holds Trym.pinned (OpenSpec.ofChange fnCutRoundTripSpec)

/-- ITS FALSE NEIGHBOUR: 'it returns false'. Refute it at one input. -/
def fnCutRoundTripWrong : ChangeSpec := { name := "fnCutRoundTrip", fn := fun _ => fun
  | [d1, d2, d3] => { results := [.lit (.bool false)], args := [d1, d2, d3] }
  | _ => none }
def FnCutRoundTripWrongFalsely : Prop := fnCutRoundTripRow.holds Trym.pinned (OpenSpec.ofChange fnCutRoundTripWrong)

/-- 'zzlaws_partition_b1.FnCutChunkShape': WHATEVER THE INPUT: true; the input reads as it did. -/
def fnCutChunkShapeSpec : ChangeSpec := { name := "fnCutChunkShape", fn := fun _ => fun
  | [d1, d2, d3] => { results := [.lit (.bool true)], args := [d1, d2, d3] }
  | _ => none }
def fnCutChunkShapeRow : OpenClaim := { program := "qxb6001620amods", sum := "439d6b94bfef950a3baebfc76358f4e3a297d392e20964e86bb29966cd2d3f91", func := "example.com/spoold/spoold/zzlaws_partition_b1.FnCutChunkShape", spec := "fnCutChunkShape", plainKeys := false, make := .lifted ["publicsums"], apart := false }
def FnCutChunkShapeSaid : Prop := fnCutChunkShapeRow.holds Trym.pinned (OpenSpec.ofChange fnCutChunkShapeSpec)

/-- ITS FALSE NEIGHBOUR: 'it returns false'. Refute it at one input. -/
def fnCutChunkShapeWrong : ChangeSpec := { name := "fnCutChunkShape", fn := fun _ => fun
  | [d1, d2, d3] => { results := [.lit (.bool false)], args := [d1, d2, d3] }
  | _ => none }
def FnCutChunkShapeWrongFalsely : Prop := fnCutChunkShapeRow.holds Trym.pinned (OpenSpec.ofChange fnCutChunkShapeWrong)

/-- 'zzlaws_partition_b1.FnCutChunksDisjoint': WHATEVER THE INPUT: true; the input reads as it did. -/
def fnCutChunksDisjointSpec : ChangeSpec := { name := "fnCutChunksDisjoint", fn := fun _ => fun
  | [d1, d2, d3] => { results := [.lit (.bool true)], args := [d1, d2, d3] }
  | _ => none }
def fnCutChunksDisjointRow : OpenClaim := { program := "qxb6001620amods", sum := "439d6b94bfef950a3baebfc76358f4e3a297d392e20964e86bb29966cd2d3f91", func := "example.com/spoold/spoold/zzlaws_partition_b1.FnCutChunksDisjoint", spec := "fnCutChunksDisjoint", plainKeys := false, make := .lifted ["publicsums"], apart := false }
def FnCutChunksDisjointSaid : Prop := fnCutChunksDisjointRow.holds Trym.pinned (OpenSpec.ofChange fnCutChunksDisjointSpec)

/-- ITS FALSE NEIGHBOUR: 'it returns false'. Refute it at one input. -/
def fnCutChunksDisjointWrong : ChangeSpec := { name := "fnCutChunksDisjoint", fn := fun _ => fun
  | [d1, d2, d3] => { results := [.lit (.bool false)], args := [d1, d2, d3] }
  | _ => none }
def FnCutChunksDisjointWrongFalsely : Prop := fnCutChunksDisjointRow.holds Trym.pinned (OpenSpec.ofChange fnCutChunksDisjointWrong)

/-- 'zzlaws_partition_b1.FnFirstInsert': WHATEVER THE INPUT: true; the input reads as it did. -/
def fnFirstInsertSpec : ChangeSpec := { name := "fnFirstInsert", fn := fun _ => fun
  | [d1, d2, d3, d4] => { results := [.lit (.bool true)], args := [d1, d2, d3, d4] }
  | _ => none }
def fnFirstInsertRow : OpenClaim := { program := "qxb6001620amods", sum := "439d6b94bfef950a3baebfc76358f4e3a297d392e20964e86bb29966cd2d3f91", func := "example.com/spoold/spoold/zzlaws_partition_b1.FnFirstInsert", spec := "fnFirstInsert", plainKeys := false, make := .lifted ["publicsums"], apart := false }
def FnFirstInsertSaid : Prop := fnFirstInsertRow.holds Trym.pinned (OpenSpec.ofChange fnFirstInsertSpec)

/-- ITS FALSE NEIGHBOUR: 'it returns false'. Refute it at one input. -/
def fnFirstInsertWrong : ChangeSpec := { name := "fnFirstInsert", fn := fun _ => fun
  | [d1, d2, d3, d4] => { results := [.lit (.bool false)], args := [d1, d2, d3, d4] }
  | _ => none }
def FnFirstInsertWrongFalsely : Prop := fnFirstInsertRow.holds Trym.pinned (OpenSpec.ofChange fnFirstInsertWrong)

end Rows
end Go.Proofs.Qxb6001620aMods
