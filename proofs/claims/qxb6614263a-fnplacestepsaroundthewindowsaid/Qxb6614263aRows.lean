/-
  No cell of these rows narrows 'for every input' (looked for: loops, veiled, ifaces, maps, wideKeys, modest, calm, conditions, laid).
  DERIVED. THE GIVEN ROWS OF THIS SEAT. 2 by the template 'for every input the law returns true; each argument reads behind the call as it read before'; 0 by the template 'total and deterministic' (their statements: Qxb6614263aTotals.lean).
  GIVEN WITH THE SEED: the statements are not yours to turn. If you find one false, say at which input.
  Laid BY PROGRAM, IN A SANDBOX (cutbox-rows.mjs): the forced cells as the released guide's own fill.sh prints them over the translation 9077dc11bf09be6e… (all of the seat's roots in one cut). By AI agents, Wed Nov 11 2026. No macro, syntax, notation, axiom, sorry.
-/
import Derived.Test.Qxb6614263aChecked
import GoSem.Claim
import GoSem.ClaimJoined
import GoSem.ClaimMapViews
import Derived.JoinedTies
import Derived.KernelRfl
namespace Go.Proofs.Qxb6614263a
/- THE CELL 'sum', in the pinned program and in every row, IS THE sha256 OF THE DUMP (.gsa) THAT Qxb6614263aProg.lean LOADS. Nothing in Lean hashes anything: it is a label: what it is worth is what the hold of that sum in a sandbox is worth. -/
noncomputable def Try.pinned : Pinned := { name := "qxb6614263a", sum := "9077dc11bf09be6e2fbb1d94b2adde674fbb67c3f9c56c55d4ef2cdce46ba068", checked := Try.checked }
namespace Rows
def none {H : Type} : Left H := { results := [], args := [] }

/-- 'zzlaws_pkg_muxrpc_b1.FnPlaceStepsAroundTheWindow': WHATEVER THE INPUT: true; the input reads as it did. -/
def fnPlaceStepsAroundTheWindowSpec : ChangeSpec := { name := "fnPlaceStepsAroundTheWindow", fn := fun _ => fun
  | [d] => { results := [.lit (.bool true)], args := [d] }
  | _ => none }
def fnPlaceStepsAroundTheWindowRow : OpenClaim := { program := "qxb6614263a", sum := "9077dc11bf09be6e2fbb1d94b2adde674fbb67c3f9c56c55d4ef2cdce46ba068", func := "example.com/venue-for-peers/venue-for-peers/zzlaws_pkg_muxrpc_b1.FnPlaceStepsAroundTheWindow", spec := "fnPlaceStepsAroundTheWindow", apart := false }
def FnPlaceStepsAroundTheWindowSaid : Prop := fnPlaceStepsAroundTheWindowRow.holds Try.pinned (OpenSpec.ofChange fnPlaceStepsAroundTheWindowSpec)

/-- ITS FALSE NEIGHBOUR: 'it returns false'. Refute it at one input. -/
def fnPlaceStepsAroundTheWindowWrong : ChangeSpec := { name := "fnPlaceStepsAroundTheWindow", fn := fun _ => fun
  | [d] => { results := [.lit (.bool false)], args := [d] }
  | _ => none }
def FnPlaceStepsAroundTheWindowWrongFalsely : Prop := fnPlaceStepsAroundTheWindowRow.holds Try.pinned (OpenSpec.ofChange fnPlaceStepsAroundTheWindowWrong)

/-- 'zzlaws_pkg_muxrpc_b1.FnPlaceSharesASlotExactlyWhenCongruent': WHATEVER THE INPUT: true; the input reads as it did. -/
def fnPlaceSharesASlotExactlyWhenCongruentSpec : ChangeSpec := { name := "fnPlaceSharesASlotExactlyWhenCongruent", fn := fun _ => fun
  | [d1, d2] => { results := [.lit (.bool true)], args := [d1, d2] }
  | _ => none }
def fnPlaceSharesASlotExactlyWhenCongruentRow : OpenClaim := { program := "qxb6614263a", sum := "9077dc11bf09be6e2fbb1d94b2adde674fbb67c3f9c56c55d4ef2cdce46ba068", func := "example.com/venue-for-peers/venue-for-peers/zzlaws_pkg_muxrpc_b1.FnPlaceSharesASlotExactlyWhenCongruent", spec := "fnPlaceSharesASlotExactlyWhenCongruent", apart := false }
def FnPlaceSharesASlotExactlyWhenCongruentSaid : Prop := fnPlaceSharesASlotExactlyWhenCongruentRow.holds Try.pinned (OpenSpec.ofChange fnPlaceSharesASlotExactlyWhenCongruentSpec)

/-- ITS FALSE NEIGHBOUR: 'it returns false'. Refute it at one input. -/
def fnPlaceSharesASlotExactlyWhenCongruentWrong : ChangeSpec := { name := "fnPlaceSharesASlotExactlyWhenCongruent", fn := fun _ => fun
  | [d1, d2] => { results := [.lit (.bool false)], args := [d1, d2] }
  | _ => none }
def FnPlaceSharesASlotExactlyWhenCongruentWrongFalsely : Prop := fnPlaceSharesASlotExactlyWhenCongruentRow.holds Try.pinned (OpenSpec.ofChange fnPlaceSharesASlotExactlyWhenCongruentWrong)

end Rows
end Go.Proofs.Qxb6614263a
