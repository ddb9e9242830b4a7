/-
  No cell of these rows narrows 'for every input' (looked for: loops, veiled, ifaces, maps, wideKeys, modest, calm, conditions, laid).
  DERIVED. THE GIVEN ROWS OF THIS SEAT. 5 by the template 'for every input the law returns true; each argument reads behind the call as it read before'; 0 by the template 'total and deterministic' (their statements: Qxb6604996aModsTotals.lean).
  GIVEN WITH THE SEED: the statements are not yours to turn. If you find one false, say at which input.
  Laid BY PROGRAM, IN A SANDBOX (cutbox-rows.mjs): the forced cells as the released guide's own fill.sh prints them over the translation 0ba26a6b9151c453… (all of the seat's roots in one cut). By AI agents, Wed Nov 11 2026. No macro, syntax, notation, axiom, sorry.
-/
import Derived.Test.Qxb6604996aModsChecked
import GoSem.Claim
import GoSem.ClaimJoined
import GoSem.ClaimMapViews
import Derived.JoinedTies
import Derived.KernelRfl
namespace Go.Proofs.Qxb6604996aMods
/- THE CELL 'sum', in the pinned program and in every row, IS THE sha256 OF THE DUMP (.gsa) THAT Qxb6604996aModsProg.lean LOADS. Nothing in Lean hashes anything: it is a label: what it is worth is what the hold of that sum in a sandbox is worth. -/
noncomputable def Trym.pinned : Pinned := { name := "qxb6604996amods", sum := "0ba26a6b9151c453bf068d347494a988465c75a79f76e23ba355f6b23a8ca44c", checked := Trym.checked }
namespace Rows
def none {H : Type} : Left H := { results := [], args := [] }

/-- 'zzlaws_pkg_store_b1.FnLastWrittenIsNewestNumberedAtOrBefore': WHATEVER THE INPUT: true; the input reads as it did. -/
def fnLastWrittenIsNewestNumberedAtOrBeforeSpec : ChangeSpec := { name := "fnLastWrittenIsNewestNumberedAtOrBefore", fn := fun _ => fun
  | [d1, d2, d3] => { results := [.lit (.bool true)], args := [d1, d2, d3] }
  | _ => none }
def fnLastWrittenIsNewestNumberedAtOrBeforeRow : OpenClaim := { program := "qxb6604996amods", sum := "0ba26a6b9151c453bf068d347494a988465c75a79f76e23ba355f6b23a8ca44c", func := "example.com/halyard/halyard/zzlaws_pkg_store_b1.FnLastWrittenIsNewestNumberedAtOrBefore", spec := "fnLastWrittenIsNewestNumberedAtOrBefore", plainKeys := false, make := .lifted ["publicsums"], apart := false }
def FnLastWrittenIsNewestNumberedAtOrBeforeSaid : Prop := fnLastWrittenIsNewestNumberedAtOrBeforeRow.holds Trym.pinned (OpenSpec.ofChange fnLastWrittenIsNewestNumberedAtOrBeforeSpec)

/-- ITS FALSE NEIGHBOUR: 'it returns false'. Refute it at one input. -/
def fnLastWrittenIsNewestNumberedAtOrBeforeWrong : ChangeSpec := { name := "fnLastWrittenIsNewestNumberedAtOrBefore", fn := fun _ => fun
  | [d1, d2, d3] => { results := [.lit (.bool false)], args := [d1, d2, d3] }
  | _ => none }
def FnLastWrittenIsNewestNumberedAtOrBeforeWrongFalsely : Prop := fnLastWrittenIsNewestNumberedAtOrBeforeRow.holds Trym.pinned (OpenSpec.ofChange fnLastWrittenIsNewestNumberedAtOrBeforeWrong)

/-- 'zzlaws_pkg_store_b1.FnLastWrittenGrowsWithPos': WHATEVER THE INPUT: true; the input reads as it did. -/
def fnLastWrittenGrowsWithPosSpec : ChangeSpec := { name := "fnLastWrittenGrowsWithPos", fn := fun _ => fun
  | [d1, d2, d3, d4] => { results := [.lit (.bool true)], args := [d1, d2, d3, d4] }
  | _ => none }
def fnLastWrittenGrowsWithPosRow : OpenClaim := { program := "qxb6604996amods", sum := "0ba26a6b9151c453bf068d347494a988465c75a79f76e23ba355f6b23a8ca44c", func := "example.com/halyard/halyard/zzlaws_pkg_store_b1.FnLastWrittenGrowsWithPos", spec := "fnLastWrittenGrowsWithPos", plainKeys := false, make := .lifted ["publicsums"], apart := false }
def FnLastWrittenGrowsWithPosSaid : Prop := fnLastWrittenGrowsWithPosRow.holds Trym.pinned (OpenSpec.ofChange fnLastWrittenGrowsWithPosSpec)

/-- ITS FALSE NEIGHBOUR: 'it returns false'. Refute it at one input. -/
def fnLastWrittenGrowsWithPosWrong : ChangeSpec := { name := "fnLastWrittenGrowsWithPos", fn := fun _ => fun
  | [d1, d2, d3, d4] => { results := [.lit (.bool false)], args := [d1, d2, d3, d4] }
  | _ => none }
def FnLastWrittenGrowsWithPosWrongFalsely : Prop := fnLastWrittenGrowsWithPosRow.holds Trym.pinned (OpenSpec.ofChange fnLastWrittenGrowsWithPosWrong)

/-- 'zzlaws_pkg_store_b1.FnRangeFloorLowerAgreesWithFloorLower': WHATEVER THE INPUT: true; the input reads as it did. -/
def fnRangeFloorLowerAgreesWithFloorLowerSpec : ChangeSpec := { name := "fnRangeFloorLowerAgreesWithFloorLower", fn := fun _ => fun
  | [d1, d2, d3, d4, d5, d6, d7, d8, d9, d10, d11] => { results := [.lit (.bool true)], args := [d1, d2, d3, d4, d5, d6, d7, d8, d9, d10, d11] }
  | _ => none }
def fnRangeFloorLowerAgreesWithFloorLowerRow : OpenClaim := { program := "qxb6604996amods", sum := "0ba26a6b9151c453bf068d347494a988465c75a79f76e23ba355f6b23a8ca44c", func := "example.com/halyard/halyard/zzlaws_pkg_store_b1.FnRangeFloorLowerAgreesWithFloorLower", spec := "fnRangeFloorLowerAgreesWithFloorLower", inPlace := ["internal/bytealg.abigen_runtime_cmpstring"], plainKeys := false, make := .lifted ["publicsums"], apart := false }
def FnRangeFloorLowerAgreesWithFloorLowerSaid : Prop := fnRangeFloorLowerAgreesWithFloorLowerRow.holds Trym.pinned (OpenSpec.ofChange fnRangeFloorLowerAgreesWithFloorLowerSpec)

/-- ITS FALSE NEIGHBOUR: 'it returns false'. Refute it at one input. -/
def fnRangeFloorLowerAgreesWithFloorLowerWrong : ChangeSpec := { name := "fnRangeFloorLowerAgreesWithFloorLower", fn := fun _ => fun
  | [d1, d2, d3, d4, d5, d6, d7, d8, d9, d10, d11] => { results := [.lit (.bool false)], args := [d1, d2, d3, d4, d5, d6, d7, d8, d9, d10, d11] }
  | _ => none }
def FnRangeFloorLowerAgreesWithFloorLowerWrongFalsely : Prop := fnRangeFloorLowerAgreesWithFloorLowerRow.holds Trym.pinned (OpenSpec.ofChange fnRangeFloorLowerAgreesWithFloorLowerWrong)

/-- 'zzlaws_pkg_store_b1.FnNoteKeptNotesWhatSupersedesTheFirstEntry': WHATEVER THE INPUT: true; the input reads as it did. -/
def fnNoteKeptNotesWhatSupersedesTheFirstEntrySpec : ChangeSpec := { name := "fnNoteKeptNotesWhatSupersedesTheFirstEntry", fn := fun _ => fun
  | [d1, d2, d3, d4, d5, d6, d7, d8, d9, d10, d11, d12] => { results := [.lit (.bool true)], args := [d1, d2, d3, d4, d5, d6, d7, d8, d9, d10, d11, d12] }
  | _ => none }
def fnNoteKeptNotesWhatSupersedesTheFirstEntryRow : OpenClaim := { program := "qxb6604996amods", sum := "0ba26a6b9151c453bf068d347494a988465c75a79f76e23ba355f6b23a8ca44c", func := "example.com/halyard/halyard/zzlaws_pkg_store_b1.FnNoteKeptNotesWhatSupersedesTheFirstEntry", spec := "fnNoteKeptNotesWhatSupersedesTheFirstEntry", inPlace := ["internal/bytealg.abigen_runtime_cmpstring", "sync/atomic.StorePointer", "sync/atomic.LoadPointer"], unfollowed := true, recurses := true, plainKeys := false, make := .lifted ["publicsums"], apart := false }
def FnNoteKeptNotesWhatSupersedesTheFirstEntrySaid : Prop := fnNoteKeptNotesWhatSupersedesTheFirstEntryRow.holds Trym.pinned (OpenSpec.ofChange fnNoteKeptNotesWhatSupersedesTheFirstEntrySpec)

/-- ITS FALSE NEIGHBOUR: 'it returns false'. Refute it at one input. -/
def fnNoteKeptNotesWhatSupersedesTheFirstEntryWrong : ChangeSpec := { name := "fnNoteKeptNotesWhatSupersedesTheFirstEntry", fn := fun _ => fun
  | [d1, d2, d3, d4, d5, d6, d7, d8, d9, d10, d11, d12] => { results := [.lit (.bool false)], args := [d1, d2, d3, d4, d5, d6, d7, d8, d9, d10, d11, d12] }
  | _ => none }
def FnNoteKeptNotesWhatSupersedesTheFirstEntryWrongFalsely : Prop := fnNoteKeptNotesWhatSupersedesTheFirstEntryRow.holds Trym.pinned (OpenSpec.ofChange fnNoteKeptNotesWhatSupersedesTheFirstEntryWrong)

/-- 'zzlaws_pkg_store_b1.FnNoteKeptKeepsAnEqualSuccessorAndReplacesAStaleOne': WHATEVER THE INPUT: true; the input reads as it did. -/
def fnNoteKeptKeepsAnEqualSuccessorAndReplacesAStaleOneSpec : ChangeSpec := { name := "fnNoteKeptKeepsAnEqualSuccessorAndReplacesAStaleOne", fn := fun _ => fun
  | [d1, d2, d3, d4, d5, d6, d7, d8] => { results := [.lit (.bool true)], args := [d1, d2, d3, d4, d5, d6, d7, d8] }
  | _ => none }
def fnNoteKeptKeepsAnEqualSuccessorAndReplacesAStaleOneRow : OpenClaim := { program := "qxb6604996amods", sum := "0ba26a6b9151c453bf068d347494a988465c75a79f76e23ba355f6b23a8ca44c", func := "example.com/halyard/halyard/zzlaws_pkg_store_b1.FnNoteKeptKeepsAnEqualSuccessorAndReplacesAStaleOne", spec := "fnNoteKeptKeepsAnEqualSuccessorAndReplacesAStaleOne", inPlace := ["sync/atomic.StorePointer", "sync/atomic.LoadPointer", "internal/bytealg.abigen_runtime_cmpstring"], unfollowed := true, recurses := true, plainKeys := false, make := .lifted ["publicsums"], apart := false }
def FnNoteKeptKeepsAnEqualSuccessorAndReplacesAStaleOneSaid : Prop := fnNoteKeptKeepsAnEqualSuccessorAndReplacesAStaleOneRow.holds Trym.pinned (OpenSpec.ofChange fnNoteKeptKeepsAnEqualSuccessorAndReplacesAStaleOneSpec)

/-- ITS FALSE NEIGHBOUR: 'it returns false'. Refute it at one input. -/
def fnNoteKeptKeepsAnEqualSuccessorAndReplacesAStaleOneWrong : ChangeSpec := { name := "fnNoteKeptKeepsAnEqualSuccessorAndReplacesAStaleOne", fn := fun _ => fun
  | [d1, d2, d3, d4, d5, d6, d7, d8] => { results := [.lit (.bool false)], args := [d1, d2, d3, d4, d5, d6, d7, d8] }
  | _ => none }
def FnNoteKeptKeepsAnEqualSuccessorAndReplacesAStaleOneWrongFalsely : Prop := fnNoteKeptKeepsAnEqualSuccessorAndReplacesAStaleOneRow.holds Trym.pinned (OpenSpec.ofChange fnNoteKeptKeepsAnEqualSuccessorAndReplacesAStaleOneWrong)

end Rows
end Go.Proofs.Qxb6604996aMods
