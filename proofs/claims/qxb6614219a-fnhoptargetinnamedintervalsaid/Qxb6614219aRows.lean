/-
  No cell of these rows narrows 'for every input' (looked for: loops, veiled, ifaces, maps, wideKeys, modest, calm, conditions, laid).
  DERIVED. THE GIVEN ROWS OF THIS SEAT. 6 by the template 'for every input the law returns true; each argument reads behind the call as it read before'; 0 by the template 'total and deterministic' (their statements: Qxb6614219aTotals.lean).
  GIVEN WITH THE SEED: the statements are not yours to turn. If you find one false, say at which input.
  Laid BY PROGRAM, IN A SANDBOX (cutbox-rows.mjs): the forced cells as the released guide's own fill.sh prints them over the translation 3eab437dd60b6518… (all of the seat's roots in one cut). By AI agents, Wed Nov 11 2026. No macro, syntax, notation, axiom, sorry.
-/
import Derived.Test.Qxb6614219aChecked
import GoSem.Claim
import GoSem.ClaimJoined
import GoSem.ClaimMapViews
import Derived.JoinedTies
import Derived.KernelRfl
namespace Go.Proofs.Qxb6614219a
/- THE CELL 'sum', in the pinned program and in every row, IS THE sha256 OF THE DUMP (.gsa) THAT Qxb6614219aProg.lean LOADS. Nothing in Lean hashes anything: it is a label: what it is worth is what the hold of that sum in a sandbox is worth. -/
noncomputable def Try.pinned : Pinned := { name := "qxb6614219a", sum := "3eab437dd60b651844cf3add3bc59754fcee1adae0fd40cebe0826ba69530fd9", checked := Try.checked }
namespace Rows
def none {H : Type} : Left H := { results := [], args := [] }

/-- 'zzlaws_root_b1.FnAloneBlindToRotation': WHATEVER THE INPUT: true; the input reads as it did. -/
def fnAloneBlindToRotationSpec : ChangeSpec := { name := "fnAloneBlindToRotation", fn := fun _ => fun
  | [d1, d2, d3, d4] => { results := [.lit (.bool true)], args := [d1, d2, d3, d4] }
  | _ => none }
def fnAloneBlindToRotationRow : OpenClaim := { program := "qxb6614219a", sum := "3eab437dd60b651844cf3add3bc59754fcee1adae0fd40cebe0826ba69530fd9", func := "example.com/lacework/lacework/zzlaws_root_b1.FnAloneBlindToRotation", spec := "fnAloneBlindToRotation", inPlace := ["math/bits.Sub64"], named := ["encoding/binary.BigEndian"], plainKeys := false, apart := false }
def FnAloneBlindToRotationSaid : Prop := fnAloneBlindToRotationRow.holds Try.pinned (OpenSpec.ofChange fnAloneBlindToRotationSpec)

/-- ITS FALSE NEIGHBOUR: 'it returns false'. Refute it at one input. -/
def fnAloneBlindToRotationWrong : ChangeSpec := { name := "fnAloneBlindToRotation", fn := fun _ => fun
  | [d1, d2, d3, d4] => { results := [.lit (.bool false)], args := [d1, d2, d3, d4] }
  | _ => none }
def FnAloneBlindToRotationWrongFalsely : Prop := fnAloneBlindToRotationRow.holds Try.pinned (OpenSpec.ofChange fnAloneBlindToRotationWrong)

/-- 'zzlaws_root_b1.FnIDFromUint64ReadsBackByField': WHATEVER THE INPUT: true; the input reads as it did. -/
def fnIDFromUint64ReadsBackByFieldSpec : ChangeSpec := { name := "fnIDFromUint64ReadsBackByField", fn := fun _ => fun
  | [d] => { results := [.lit (.bool true)], args := [d] }
  | _ => none }
def fnIDFromUint64ReadsBackByFieldRow : OpenClaim := { program := "qxb6614219a", sum := "3eab437dd60b651844cf3add3bc59754fcee1adae0fd40cebe0826ba69530fd9", func := "example.com/lacework/lacework/zzlaws_root_b1.FnIDFromUint64ReadsBackByField", spec := "fnIDFromUint64ReadsBackByField", named := ["encoding/binary.BigEndian"], plainKeys := false, apart := false }
def FnIDFromUint64ReadsBackByFieldSaid : Prop := fnIDFromUint64ReadsBackByFieldRow.holds Try.pinned (OpenSpec.ofChange fnIDFromUint64ReadsBackByFieldSpec)

/-- ITS FALSE NEIGHBOUR: 'it returns false'. Refute it at one input. -/
def fnIDFromUint64ReadsBackByFieldWrong : ChangeSpec := { name := "fnIDFromUint64ReadsBackByField", fn := fun _ => fun
  | [d] => { results := [.lit (.bool false)], args := [d] }
  | _ => none }
def FnIDFromUint64ReadsBackByFieldWrongFalsely : Prop := fnIDFromUint64ReadsBackByFieldRow.holds Try.pinned (OpenSpec.ofChange fnIDFromUint64ReadsBackByFieldWrong)

/-- 'zzlaws_root_b1.FnIDFromUint64SubtractsAsWords': WHATEVER THE INPUT: true; the input reads as it did. -/
def fnIDFromUint64SubtractsAsWordsSpec : ChangeSpec := { name := "fnIDFromUint64SubtractsAsWords", fn := fun _ => fun
  | [d1, d2] => { results := [.lit (.bool true)], args := [d1, d2] }
  | _ => none }
def fnIDFromUint64SubtractsAsWordsRow : OpenClaim := { program := "qxb6614219a", sum := "3eab437dd60b651844cf3add3bc59754fcee1adae0fd40cebe0826ba69530fd9", func := "example.com/lacework/lacework/zzlaws_root_b1.FnIDFromUint64SubtractsAsWords", spec := "fnIDFromUint64SubtractsAsWords", inPlace := ["math/bits.Sub64"], named := ["encoding/binary.BigEndian"], plainKeys := false, apart := false }
def FnIDFromUint64SubtractsAsWordsSaid : Prop := fnIDFromUint64SubtractsAsWordsRow.holds Try.pinned (OpenSpec.ofChange fnIDFromUint64SubtractsAsWordsSpec)

/-- ITS FALSE NEIGHBOUR: 'it returns false'. Refute it at one input. -/
def fnIDFromUint64SubtractsAsWordsWrong : ChangeSpec := { name := "fnIDFromUint64SubtractsAsWords", fn := fun _ => fun
  | [d1, d2] => { results := [.lit (.bool false)], args := [d1, d2] }
  | _ => none }
def FnIDFromUint64SubtractsAsWordsWrongFalsely : Prop := fnIDFromUint64SubtractsAsWordsRow.holds Try.pinned (OpenSpec.ofChange fnIDFromUint64SubtractsAsWordsWrong)

/-- 'zzlaws_root_b1.FnHopDigitOfDistanceShiftFree': WHATEVER THE INPUT: true; the input reads as it did. -/
def fnHopDigitOfDistanceShiftFreeSpec : ChangeSpec := { name := "fnHopDigitOfDistanceShiftFree", fn := fun _ => fun
  | [d1, d2, d3, d4, d5] => { results := [.lit (.bool true)], args := [d1, d2, d3, d4, d5] }
  | _ => none }
def fnHopDigitOfDistanceShiftFreeRow : OpenClaim := { program := "qxb6614219a", sum := "3eab437dd60b651844cf3add3bc59754fcee1adae0fd40cebe0826ba69530fd9", func := "example.com/lacework/lacework/zzlaws_root_b1.FnHopDigitOfDistanceShiftFree", spec := "fnHopDigitOfDistanceShiftFree", inPlace := ["math/bits.Sub64"], named := ["encoding/binary.BigEndian"], plainKeys := false, apart := false }
def FnHopDigitOfDistanceShiftFreeSaid : Prop := fnHopDigitOfDistanceShiftFreeRow.holds Try.pinned (OpenSpec.ofChange fnHopDigitOfDistanceShiftFreeSpec)

/-- ITS FALSE NEIGHBOUR: 'it returns false'. Refute it at one input. -/
def fnHopDigitOfDistanceShiftFreeWrong : ChangeSpec := { name := "fnHopDigitOfDistanceShiftFree", fn := fun _ => fun
  | [d1, d2, d3, d4, d5] => { results := [.lit (.bool false)], args := [d1, d2, d3, d4, d5] }
  | _ => none }
def FnHopDigitOfDistanceShiftFreeWrongFalsely : Prop := fnHopDigitOfDistanceShiftFreeRow.holds Try.pinned (OpenSpec.ofChange fnHopDigitOfDistanceShiftFreeWrong)

/-- 'zzlaws_root_b1.FnHopTargetInNamedInterval': WHATEVER THE INPUT: true; the input reads as it did. -/
def fnHopTargetInNamedIntervalSpec : ChangeSpec := { name := "fnHopTargetInNamedInterval", fn := fun _ => fun
  | [d1, d2, d3, d4] => { results := [.lit (.bool true)], args := [d1, d2, d3, d4] }
  | _ => none }
def fnHopTargetInNamedIntervalRow : OpenClaim := { program := "qxb6614219a", sum := "3eab437dd60b651844cf3add3bc59754fcee1adae0fd40cebe0826ba69530fd9", func := "example.com/lacework/lacework/zzlaws_root_b1.FnHopTargetInNamedInterval", spec := "fnHopTargetInNamedInterval", inPlace := ["math/bits.Sub64"], named := ["encoding/binary.BigEndian"], plainKeys := false, apart := false }
def FnHopTargetInNamedIntervalSaid : Prop := fnHopTargetInNamedIntervalRow.holds Try.pinned (OpenSpec.ofChange fnHopTargetInNamedIntervalSpec)

/-- ITS FALSE NEIGHBOUR: 'it returns false'. Refute it at one input. -/
def fnHopTargetInNamedIntervalWrong : ChangeSpec := { name := "fnHopTargetInNamedInterval", fn := fun _ => fun
  | [d1, d2, d3, d4] => { results := [.lit (.bool false)], args := [d1, d2, d3, d4] }
  | _ => none }
def FnHopTargetInNamedIntervalWrongFalsely : Prop := fnHopTargetInNamedIntervalRow.holds Try.pinned (OpenSpec.ofChange fnHopTargetInNamedIntervalWrong)

/-- 'zzlaws_root_b1.FnAppendFieldPrefixFreeLength': WHATEVER THE INPUT: true; the input reads as it did. -/
def fnAppendFieldPrefixFreeLengthSpec : ChangeSpec := { name := "fnAppendFieldPrefixFreeLength", fn := fun _ => fun
  | [d1, d2] => { results := [.lit (.bool true)], args := [d1, d2] }
  | _ => none }
def fnAppendFieldPrefixFreeLengthRow : OpenClaim := { program := "qxb6614219a", sum := "3eab437dd60b651844cf3add3bc59754fcee1adae0fd40cebe0826ba69530fd9", func := "example.com/lacework/lacework/zzlaws_root_b1.FnAppendFieldPrefixFreeLength", spec := "fnAppendFieldPrefixFreeLength", plainKeys := false, apart := false }
def FnAppendFieldPrefixFreeLengthSaid : Prop := fnAppendFieldPrefixFreeLengthRow.holds Try.pinned (OpenSpec.ofChange fnAppendFieldPrefixFreeLengthSpec)

/-- ITS FALSE NEIGHBOUR: 'it returns false'. Refute it at one input. -/
def fnAppendFieldPrefixFreeLengthWrong : ChangeSpec := { name := "fnAppendFieldPrefixFreeLength", fn := fun _ => fun
  | [d1, d2] => { results := [.lit (.bool false)], args := [d1, d2] }
  | _ => none }
def FnAppendFieldPrefixFreeLengthWrongFalsely : Prop := fnAppendFieldPrefixFreeLengthRow.holds Try.pinned (OpenSpec.ofChange fnAppendFieldPrefixFreeLengthWrong)

end Rows
end Go.Proofs.Qxb6614219a
