/-
  No cell of these rows narrows 'for every input' (looked for: loops, veiled, ifaces, maps, wideKeys, modest, calm, conditions, laid).
  DERIVED. THE GIVEN ROWS OF THIS SEAT. 4 by the template 'for every input the law returns true; each argument reads behind the call as it read before'; 0 by the template 'total and deterministic' (their statements: Qxb6614371aTotals.lean).
  GIVEN WITH THE SEED: the statements are not yours to turn. If you find one false, say at which input.
  Laid BY PROGRAM, IN A SANDBOX (cutbox-rows.mjs): the forced cells as the released guide's own fill.sh prints them over the translation d6a251fc185a4525… (all of the seat's roots in one cut). By AI agents, Wed Nov 11 2026. No macro, syntax, notation, axiom, sorry.
-/
import Derived.Test.Qxb6614371aChecked
import GoSem.Claim
import GoSem.ClaimJoined
import GoSem.ClaimMapViews
import Derived.JoinedTies
import Derived.KernelRfl
namespace Go.Proofs.Qxb6614371a
/- THE CELL 'sum', in the pinned program and in every row, IS THE sha256 OF THE DUMP (.gsa) THAT Qxb6614371aProg.lean LOADS. Nothing in Lean hashes anything: it is a label: what it is worth is what the hold of that sum in a sandbox is worth. -/
noncomputable def Try.pinned : Pinned := { name := "qxb6614371a", sum := "d6a251fc185a4525aa0f3e128f648865877a06b6f87cb062d7b66a51844b4c6e", checked := Try.checked }
namespace Rows
def none {H : Type} : Left H := { results := [], args := [] }

/-- 'zzlaws_pkg_engine_b1.FnSpanCoversIsPartialOrderWithEnds': WHATEVER THE INPUT: true; the input reads as it did. -/
def fnSpanCoversIsPartialOrderWithEndsSpec : ChangeSpec := { name := "fnSpanCoversIsPartialOrderWithEnds", fn := fun _ => fun
  | [d1, d2, d3, d4, d5, d6] => { results := [.lit (.bool true)], args := [d1, d2, d3, d4, d5, d6] }
  | _ => none }
def fnSpanCoversIsPartialOrderWithEndsRow : OpenClaim := { program := "qxb6614371a", sum := "d6a251fc185a4525aa0f3e128f648865877a06b6f87cb062d7b66a51844b4c6e", func := "example.com/isoline/isoline/zzlaws_pkg_engine_b1.FnSpanCoversIsPartialOrderWithEnds", spec := "fnSpanCoversIsPartialOrderWithEnds", apart := false }
def FnSpanCoversIsPartialOrderWithEndsSaid : Prop := fnSpanCoversIsPartialOrderWithEndsRow.holds Try.pinned (OpenSpec.ofChange fnSpanCoversIsPartialOrderWithEndsSpec)

/-- ITS FALSE NEIGHBOUR: 'it returns false'. Refute it at one input. -/
def fnSpanCoversIsPartialOrderWithEndsWrong : ChangeSpec := { name := "fnSpanCoversIsPartialOrderWithEnds", fn := fun _ => fun
  | [d1, d2, d3, d4, d5, d6] => { results := [.lit (.bool false)], args := [d1, d2, d3, d4, d5, d6] }
  | _ => none }
def FnSpanCoversIsPartialOrderWithEndsWrongFalsely : Prop := fnSpanCoversIsPartialOrderWithEndsRow.holds Try.pinned (OpenSpec.ofChange fnSpanCoversIsPartialOrderWithEndsWrong)

/-- 'zzlaws_pkg_engine_b1.FnSpanCoversIsUnionAbsorption': WHATEVER THE INPUT: true; the input reads as it did. -/
def fnSpanCoversIsUnionAbsorptionSpec : ChangeSpec := { name := "fnSpanCoversIsUnionAbsorption", fn := fun _ => fun
  | [d1, d2, d3, d4, d5, d6] => { results := [.lit (.bool true)], args := [d1, d2, d3, d4, d5, d6] }
  | _ => none }
def fnSpanCoversIsUnionAbsorptionRow : OpenClaim := { program := "qxb6614371a", sum := "d6a251fc185a4525aa0f3e128f648865877a06b6f87cb062d7b66a51844b4c6e", func := "example.com/isoline/isoline/zzlaws_pkg_engine_b1.FnSpanCoversIsUnionAbsorption", spec := "fnSpanCoversIsUnionAbsorption", apart := false }
def FnSpanCoversIsUnionAbsorptionSaid : Prop := fnSpanCoversIsUnionAbsorptionRow.holds Try.pinned (OpenSpec.ofChange fnSpanCoversIsUnionAbsorptionSpec)

/-- ITS FALSE NEIGHBOUR: 'it returns false'. Refute it at one input. -/
def fnSpanCoversIsUnionAbsorptionWrong : ChangeSpec := { name := "fnSpanCoversIsUnionAbsorption", fn := fun _ => fun
  | [d1, d2, d3, d4, d5, d6] => { results := [.lit (.bool false)], args := [d1, d2, d3, d4, d5, d6] }
  | _ => none }
def FnSpanCoversIsUnionAbsorptionWrongFalsely : Prop := fnSpanCoversIsUnionAbsorptionRow.holds Try.pinned (OpenSpec.ofChange fnSpanCoversIsUnionAbsorptionWrong)

/-- 'zzlaws_pkg_engine_b1.FnWalkYieldsBothQueuesInOrderOfNumber': WHATEVER THE INPUT: true; the input reads as it did. -/
def fnWalkYieldsBothQueuesInOrderOfNumberSpec : ChangeSpec := { name := "fnWalkYieldsBothQueuesInOrderOfNumber", fn := fun _ => fun
  | [d1, d2, d3] => { results := [.lit (.bool true)], args := [d1, d2, d3] }
  | _ => none }
def fnWalkYieldsBothQueuesInOrderOfNumberRow : OpenClaim := { program := "qxb6614371a", sum := "d6a251fc185a4525aa0f3e128f648865877a06b6f87cb062d7b66a51844b4c6e", func := "example.com/isoline/isoline/zzlaws_pkg_engine_b1.FnWalkYieldsBothQueuesInOrderOfNumber", spec := "fnWalkYieldsBothQueuesInOrderOfNumber", apart := false }
def FnWalkYieldsBothQueuesInOrderOfNumberSaid : Prop := fnWalkYieldsBothQueuesInOrderOfNumberRow.holds Try.pinned (OpenSpec.ofChange fnWalkYieldsBothQueuesInOrderOfNumberSpec)

/-- ITS FALSE NEIGHBOUR: 'it returns false'. Refute it at one input. -/
def fnWalkYieldsBothQueuesInOrderOfNumberWrong : ChangeSpec := { name := "fnWalkYieldsBothQueuesInOrderOfNumber", fn := fun _ => fun
  | [d1, d2, d3] => { results := [.lit (.bool false)], args := [d1, d2, d3] }
  | _ => none }
def FnWalkYieldsBothQueuesInOrderOfNumberWrongFalsely : Prop := fnWalkYieldsBothQueuesInOrderOfNumberRow.holds Try.pinned (OpenSpec.ofChange fnWalkYieldsBothQueuesInOrderOfNumberWrong)

/-- 'zzlaws_pkg_engine_b1.FnWalkReadsOnlyItsOwnSlot': WHATEVER THE INPUT: true; the input reads as it did. -/
def fnWalkReadsOnlyItsOwnSlotSpec : ChangeSpec := { name := "fnWalkReadsOnlyItsOwnSlot", fn := fun _ => fun
  | [d1, d2, d3, d4] => { results := [.lit (.bool true)], args := [d1, d2, d3, d4] }
  | _ => none }
def fnWalkReadsOnlyItsOwnSlotRow : OpenClaim := { program := "qxb6614371a", sum := "d6a251fc185a4525aa0f3e128f648865877a06b6f87cb062d7b66a51844b4c6e", func := "example.com/isoline/isoline/zzlaws_pkg_engine_b1.FnWalkReadsOnlyItsOwnSlot", spec := "fnWalkReadsOnlyItsOwnSlot", apart := false }
def FnWalkReadsOnlyItsOwnSlotSaid : Prop := fnWalkReadsOnlyItsOwnSlotRow.holds Try.pinned (OpenSpec.ofChange fnWalkReadsOnlyItsOwnSlotSpec)

/-- ITS FALSE NEIGHBOUR: 'it returns false'. Refute it at one input. -/
def fnWalkReadsOnlyItsOwnSlotWrong : ChangeSpec := { name := "fnWalkReadsOnlyItsOwnSlot", fn := fun _ => fun
  | [d1, d2, d3, d4] => { results := [.lit (.bool false)], args := [d1, d2, d3, d4] }
  | _ => none }
def FnWalkReadsOnlyItsOwnSlotWrongFalsely : Prop := fnWalkReadsOnlyItsOwnSlotRow.holds Try.pinned (OpenSpec.ofChange fnWalkReadsOnlyItsOwnSlotWrong)

end Rows
end Go.Proofs.Qxb6614371a
