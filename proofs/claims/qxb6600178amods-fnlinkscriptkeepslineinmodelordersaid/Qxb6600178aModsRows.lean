/-
  No cell of these rows narrows 'for every input' (looked for: loops, veiled, ifaces, maps, wideKeys, modest, calm, conditions, laid).
  DERIVED. THE GIVEN ROWS OF THIS SEAT. 2 by the template 'for every input the law returns true; each argument reads behind the call as it read before'; 0 by the template 'total and deterministic' (their statements: Qxb6600178aModsTotals.lean).
  GIVEN WITH THE SEED: the statements are not yours to turn. If you find one false, say at which input.
  Laid BY PROGRAM, IN A SANDBOX (cutbox-rows.mjs): the forced cells as the released guide's own fill.sh prints them over the translation 642e979730b1f23c… (all of the seat's roots in one cut). By AI agents, Wed Nov 11 2026. No macro, syntax, notation, axiom, sorry.
-/
import Derived.Test.Qxb6600178aModsChecked
import GoSem.Claim
import GoSem.ClaimJoined
import GoSem.ClaimMapViews
import Derived.JoinedTies
import Derived.KernelRfl
namespace Go.Proofs.Qxb6600178aMods
/- THE CELL 'sum', in the pinned program and in every row, IS THE sha256 OF THE DUMP (.gsa) THAT Qxb6600178aModsProg.lean LOADS. Nothing in Lean hashes anything: it is a label: what it is worth is what the hold of that sum in a sandbox is worth. -/
noncomputable def Trym.pinned : Pinned := { name := "qxb6600178amods", sum := "642e979730b1f23ccebed1a70bddc27361336934668e2ac01c9608b84074de5e", checked := Trym.checked }
namespace Rows
def none {H : Type} : Left H := { results := [], args := [] }

/-- 'zzlaws_internal_proof_b1.FnLinkScriptKeepsLineInModelOrder': WHATEVER THE INPUT: true; the input reads as it did. -/
def fnLinkScriptKeepsLineInModelOrderSpec : ChangeSpec := { name := "fnLinkScriptKeepsLineInModelOrder", fn := fun _ => fun
  | [d] => { results := [.lit (.bool true)], args := [d] }
  | _ => none }
def fnLinkScriptKeepsLineInModelOrderRow : OpenClaim := { program := "qxb6600178amods", sum := "642e979730b1f23ccebed1a70bddc27361336934668e2ac01c9608b84074de5e", func := "example.com/gainsay/gainsay/zzlaws_internal_proof_b1.FnLinkScriptKeepsLineInModelOrder", spec := "fnLinkScriptKeepsLineInModelOrder", plainKeys := false, make := .lifted ["publicsums"], apart := false }
def FnLinkScriptKeepsLineInModelOrderSaid : Prop := fnLinkScriptKeepsLineInModelOrderRow.holds Trym.pinned (OpenSpec.ofChange fnLinkScriptKeepsLineInModelOrderSpec)

/-- ITS FALSE NEIGHBOUR: 'it returns false'. Refute it at one input. -/
def fnLinkScriptKeepsLineInModelOrderWrong : ChangeSpec := { name := "fnLinkScriptKeepsLineInModelOrder", fn := fun _ => fun
  | [d] => { results := [.lit (.bool false)], args := [d] }
  | _ => none }
def FnLinkScriptKeepsLineInModelOrderWrongFalsely : Prop := fnLinkScriptKeepsLineInModelOrderRow.holds Trym.pinned (OpenSpec.ofChange fnLinkScriptKeepsLineInModelOrderWrong)

/-- 'zzlaws_internal_proof_b1.FnLinkPutsPlaceJustBelowNextAndKeepsLabelsRising': WHATEVER THE INPUT: true; the input reads as it did. -/
def fnLinkPutsPlaceJustBelowNextAndKeepsLabelsRisingSpec : ChangeSpec := { name := "fnLinkPutsPlaceJustBelowNextAndKeepsLabelsRising", fn := fun _ => fun
  | [d] => { results := [.lit (.bool true)], args := [d] }
  | _ => none }
def fnLinkPutsPlaceJustBelowNextAndKeepsLabelsRisingRow : OpenClaim := { program := "qxb6600178amods", sum := "642e979730b1f23ccebed1a70bddc27361336934668e2ac01c9608b84074de5e", func := "example.com/gainsay/gainsay/zzlaws_internal_proof_b1.FnLinkPutsPlaceJustBelowNextAndKeepsLabelsRising", spec := "fnLinkPutsPlaceJustBelowNextAndKeepsLabelsRising", plainKeys := false, make := .lifted ["publicsums"], apart := false }
def FnLinkPutsPlaceJustBelowNextAndKeepsLabelsRisingSaid : Prop := fnLinkPutsPlaceJustBelowNextAndKeepsLabelsRisingRow.holds Trym.pinned (OpenSpec.ofChange fnLinkPutsPlaceJustBelowNextAndKeepsLabelsRisingSpec)

/-- ITS FALSE NEIGHBOUR: 'it returns false'. Refute it at one input. -/
def fnLinkPutsPlaceJustBelowNextAndKeepsLabelsRisingWrong : ChangeSpec := { name := "fnLinkPutsPlaceJustBelowNextAndKeepsLabelsRising", fn := fun _ => fun
  | [d] => { results := [.lit (.bool false)], args := [d] }
  | _ => none }
def FnLinkPutsPlaceJustBelowNextAndKeepsLabelsRisingWrongFalsely : Prop := fnLinkPutsPlaceJustBelowNextAndKeepsLabelsRisingRow.holds Trym.pinned (OpenSpec.ofChange fnLinkPutsPlaceJustBelowNextAndKeepsLabelsRisingWrong)

end Rows
end Go.Proofs.Qxb6600178aMods
