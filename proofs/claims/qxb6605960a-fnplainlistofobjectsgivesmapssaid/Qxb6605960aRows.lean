/-
  No cell of these rows narrows 'for every input' (looked for: loops, veiled, ifaces, maps, wideKeys, modest, calm, conditions, laid).
  DERIVED. THE GIVEN ROWS OF THIS SEAT. 6 by the template 'for every input the law returns true; each argument reads behind the call as it read before'; 0 by the template 'total and deterministic' (their statements: Qxb6605960aTotals.lean).
  GIVEN WITH THE SEED: the statements are not yours to turn. If you find one false, say at which input.
  Laid BY PROGRAM, IN A SANDBOX (cutbox-rows.mjs): the forced cells as the released guide's own fill.sh prints them over the translation b76e975608dfe60f… (all of the seat's roots in one cut). By AI agents, Wed Nov 11 2026. No macro, syntax, notation, axiom, sorry.
-/
import Derived.Test.Qxb6605960aChecked
import GoSem.Claim
import GoSem.ClaimJoined
import GoSem.ClaimMapViews
import Derived.JoinedTies
import Derived.KernelRfl
namespace Go.Proofs.Qxb6605960a
/- THE CELL 'sum', in the pinned program and in every row, IS THE sha256 OF THE DUMP (.gsa) THAT Qxb6605960aProg.lean LOADS. Nothing in Lean hashes anything: it is a label: what it is worth is what the hold of that sum in a sandbox is worth. -/
noncomputable def Try.pinned : Pinned := { name := "qxb6605960a", sum := "b76e975608dfe60fa0ad698dfa9106b9e7b1c0c59a0e1d276954d4c1282e14d7", checked := Try.checked }
namespace Rows
def none {H : Type} : Left H := { results := [], args := [] }

/-- 'zzlaws_root_b1.FnAppendToggleDecodesBack': WHATEVER THE INPUT: true; the input reads as it did. -/
def fnAppendToggleDecodesBackSpec : ChangeSpec := { name := "fnAppendToggleDecodesBack", fn := fun _ => fun
  | [d1, d2, d3] => { results := [.lit (.bool true)], args := [d1, d2, d3] }
  | _ => none }
def fnAppendToggleDecodesBackRow : OpenClaim := { program := "qxb6605960a", sum := "b76e975608dfe60fa0ad698dfa9106b9e7b1c0c59a0e1d276954d4c1282e14d7", func := "example.com/brace2/brace2/zzlaws_root_b1.FnAppendToggleDecodesBack", spec := "fnAppendToggleDecodesBack", plainKeys := false, apart := false }
def FnAppendToggleDecodesBackSaid : Prop := fnAppendToggleDecodesBackRow.holds Try.pinned (OpenSpec.ofChange fnAppendToggleDecodesBackSpec)

/-- ITS FALSE NEIGHBOUR: 'it returns false'. Refute it at one input. -/
def fnAppendToggleDecodesBackWrong : ChangeSpec := { name := "fnAppendToggleDecodesBack", fn := fun _ => fun
  | [d1, d2, d3] => { results := [.lit (.bool false)], args := [d1, d2, d3] }
  | _ => none }
def FnAppendToggleDecodesBackWrongFalsely : Prop := fnAppendToggleDecodesBackRow.holds Try.pinned (OpenSpec.ofChange fnAppendToggleDecodesBackWrong)

/-- 'zzlaws_root_b1.FnAppendToggleOrdersByUnitThenBit': WHATEVER THE INPUT: true; the input reads as it did. -/
def fnAppendToggleOrdersByUnitThenBitSpec : ChangeSpec := { name := "fnAppendToggleOrdersByUnitThenBit", fn := fun _ => fun
  | [d1, d2, d3, d4] => { results := [.lit (.bool true)], args := [d1, d2, d3, d4] }
  | _ => none }
def fnAppendToggleOrdersByUnitThenBitRow : OpenClaim := { program := "qxb6605960a", sum := "b76e975608dfe60fa0ad698dfa9106b9e7b1c0c59a0e1d276954d4c1282e14d7", func := "example.com/brace2/brace2/zzlaws_root_b1.FnAppendToggleOrdersByUnitThenBit", spec := "fnAppendToggleOrdersByUnitThenBit", plainKeys := false, apart := false }
def FnAppendToggleOrdersByUnitThenBitSaid : Prop := fnAppendToggleOrdersByUnitThenBitRow.holds Try.pinned (OpenSpec.ofChange fnAppendToggleOrdersByUnitThenBitSpec)

/-- ITS FALSE NEIGHBOUR: 'it returns false'. Refute it at one input. -/
def fnAppendToggleOrdersByUnitThenBitWrong : ChangeSpec := { name := "fnAppendToggleOrdersByUnitThenBit", fn := fun _ => fun
  | [d1, d2, d3, d4] => { results := [.lit (.bool false)], args := [d1, d2, d3, d4] }
  | _ => none }
def FnAppendToggleOrdersByUnitThenBitWrongFalsely : Prop := fnAppendToggleOrdersByUnitThenBitRow.holds Try.pinned (OpenSpec.ofChange fnAppendToggleOrdersByUnitThenBitWrong)

/-- 'zzlaws_root_b1.FnAcceptsCountsOverAWindow': WHATEVER THE INPUT: true; the input reads as it did. -/
def fnAcceptsCountsOverAWindowSpec : ChangeSpec := { name := "fnAcceptsCountsOverAWindow", fn := fun _ => fun
  | [d1, d2, d3, d4, d5, d6, d7, d8] => { results := [.lit (.bool true)], args := [d1, d2, d3, d4, d5, d6, d7, d8] }
  | _ => none }
def fnAcceptsCountsOverAWindowRow : OpenClaim := { program := "qxb6605960a", sum := "b76e975608dfe60fa0ad698dfa9106b9e7b1c0c59a0e1d276954d4c1282e14d7", func := "example.com/brace2/brace2/zzlaws_root_b1.FnAcceptsCountsOverAWindow", spec := "fnAcceptsCountsOverAWindow", plainKeys := false, apart := false }
def FnAcceptsCountsOverAWindowSaid : Prop := fnAcceptsCountsOverAWindowRow.holds Try.pinned (OpenSpec.ofChange fnAcceptsCountsOverAWindowSpec)

/-- ITS FALSE NEIGHBOUR: 'it returns false'. Refute it at one input. -/
def fnAcceptsCountsOverAWindowWrong : ChangeSpec := { name := "fnAcceptsCountsOverAWindow", fn := fun _ => fun
  | [d1, d2, d3, d4, d5, d6, d7, d8] => { results := [.lit (.bool false)], args := [d1, d2, d3, d4, d5, d6, d7, d8] }
  | _ => none }
def FnAcceptsCountsOverAWindowWrongFalsely : Prop := fnAcceptsCountsOverAWindowRow.holds Try.pinned (OpenSpec.ofChange fnAcceptsCountsOverAWindowWrong)

/-- 'zzlaws_root_b1.FnAcceptsOddKeepsOneOfEachPair': WHATEVER THE INPUT: true; the input reads as it did. -/
def fnAcceptsOddKeepsOneOfEachPairSpec : ChangeSpec := { name := "fnAcceptsOddKeepsOneOfEachPair", fn := fun _ => fun
  | [d1, d2, d3, d4, d5, d6] => { results := [.lit (.bool true)], args := [d1, d2, d3, d4, d5, d6] }
  | _ => none }
def fnAcceptsOddKeepsOneOfEachPairRow : OpenClaim := { program := "qxb6605960a", sum := "b76e975608dfe60fa0ad698dfa9106b9e7b1c0c59a0e1d276954d4c1282e14d7", func := "example.com/brace2/brace2/zzlaws_root_b1.FnAcceptsOddKeepsOneOfEachPair", spec := "fnAcceptsOddKeepsOneOfEachPair", plainKeys := false, apart := false }
def FnAcceptsOddKeepsOneOfEachPairSaid : Prop := fnAcceptsOddKeepsOneOfEachPairRow.holds Try.pinned (OpenSpec.ofChange fnAcceptsOddKeepsOneOfEachPairSpec)

/-- ITS FALSE NEIGHBOUR: 'it returns false'. Refute it at one input. -/
def fnAcceptsOddKeepsOneOfEachPairWrong : ChangeSpec := { name := "fnAcceptsOddKeepsOneOfEachPair", fn := fun _ => fun
  | [d1, d2, d3, d4, d5, d6] => { results := [.lit (.bool false)], args := [d1, d2, d3, d4, d5, d6] }
  | _ => none }
def FnAcceptsOddKeepsOneOfEachPairWrongFalsely : Prop := fnAcceptsOddKeepsOneOfEachPairRow.holds Try.pinned (OpenSpec.ofChange fnAcceptsOddKeepsOneOfEachPairWrong)

/-- 'zzlaws_root_b1.FnPlainObjectGivesItsMap': WHATEVER THE INPUT: true; the input reads as it did. -/
def fnPlainObjectGivesItsMapSpec : ChangeSpec := { name := "fnPlainObjectGivesItsMap", fn := fun _ => fun
  | [d1, d2] => { results := [.lit (.bool true)], args := [d1, d2] }
  | _ => none }
def fnPlainObjectGivesItsMapRow : OpenClaim := { program := "qxb6605960a", sum := "b76e975608dfe60fa0ad698dfa9106b9e7b1c0c59a0e1d276954d4c1282e14d7", func := "example.com/brace2/brace2/zzlaws_root_b1.FnPlainObjectGivesItsMap", spec := "fnPlainObjectGivesItsMap", unfollowed := true, recurses := true, plainKeys := false, apart := false }
def FnPlainObjectGivesItsMapSaid : Prop := fnPlainObjectGivesItsMapRow.holds Try.pinned (OpenSpec.ofChange fnPlainObjectGivesItsMapSpec)

/-- ITS FALSE NEIGHBOUR: 'it returns false'. Refute it at one input. -/
def fnPlainObjectGivesItsMapWrong : ChangeSpec := { name := "fnPlainObjectGivesItsMap", fn := fun _ => fun
  | [d1, d2] => { results := [.lit (.bool false)], args := [d1, d2] }
  | _ => none }
def FnPlainObjectGivesItsMapWrongFalsely : Prop := fnPlainObjectGivesItsMapRow.holds Try.pinned (OpenSpec.ofChange fnPlainObjectGivesItsMapWrong)

/-- 'zzlaws_root_b1.FnPlainListOfObjectsGivesMaps': WHATEVER THE INPUT: true; the input reads as it did. -/
def fnPlainListOfObjectsGivesMapsSpec : ChangeSpec := { name := "fnPlainListOfObjectsGivesMaps", fn := fun _ => fun
  | [d1, d2] => { results := [.lit (.bool true)], args := [d1, d2] }
  | _ => none }
def fnPlainListOfObjectsGivesMapsRow : OpenClaim := { program := "qxb6605960a", sum := "b76e975608dfe60fa0ad698dfa9106b9e7b1c0c59a0e1d276954d4c1282e14d7", func := "example.com/brace2/brace2/zzlaws_root_b1.FnPlainListOfObjectsGivesMaps", spec := "fnPlainListOfObjectsGivesMaps", unfollowed := true, recurses := true, plainKeys := false, apart := false }
def FnPlainListOfObjectsGivesMapsSaid : Prop := fnPlainListOfObjectsGivesMapsRow.holds Try.pinned (OpenSpec.ofChange fnPlainListOfObjectsGivesMapsSpec)

/-- ITS FALSE NEIGHBOUR: 'it returns false'. Refute it at one input. -/
def fnPlainListOfObjectsGivesMapsWrong : ChangeSpec := { name := "fnPlainListOfObjectsGivesMaps", fn := fun _ => fun
  | [d1, d2] => { results := [.lit (.bool false)], args := [d1, d2] }
  | _ => none }
def FnPlainListOfObjectsGivesMapsWrongFalsely : Prop := fnPlainListOfObjectsGivesMapsRow.holds Try.pinned (OpenSpec.ofChange fnPlainListOfObjectsGivesMapsWrong)

end Rows
end Go.Proofs.Qxb6605960a
