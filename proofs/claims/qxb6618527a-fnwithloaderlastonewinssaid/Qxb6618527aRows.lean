/-
  No cell of these rows narrows 'for every input' (looked for: loops, veiled, ifaces, maps, wideKeys, modest, calm, conditions, laid).
  DERIVED. THE GIVEN ROWS OF THIS SEAT. 3 by the template 'for every input the law returns true; each argument reads behind the call as it read before'; 0 by the template 'total and deterministic' (their statements: Qxb6618527aTotals.lean).
  GIVEN WITH THE SEED: the statements are not yours to turn. If you find one false, say at which input.
  Laid BY PROGRAM, IN A SANDBOX (cutbox-rows.mjs): the forced cells as the released guide's own fill.sh prints them over the translation a2db66538c622065… (all of the seat's roots in one cut). By AI agents, Wed Nov 11 2026. No macro, syntax, notation, axiom, sorry.
-/
import Derived.Test.Qxb6618527aChecked
import GoSem.Claim
import GoSem.ClaimJoined
import GoSem.ClaimMapViews
import Derived.JoinedTies
import Derived.KernelRfl
namespace Go.Proofs.Qxb6618527a
/- THE CELL 'sum', in the pinned program and in every row, IS THE sha256 OF THE DUMP (.gsa) THAT Qxb6618527aProg.lean LOADS. Nothing in Lean hashes anything: it is a label: what it is worth is what the hold of that sum in a sandbox is worth. -/
noncomputable def Try.pinned : Pinned := { name := "qxb6618527a", sum := "a2db66538c622065076b8209060aea0aaa3cbbe375203a8e54f765f439e9db3d", checked := Try.checked }
namespace Rows
def none {H : Type} : Left H := { results := [], args := [] }

/-- 'zzlaws_root_b1.FnWithLoaderLastOneWins': WHATEVER THE INPUT: true; the input reads as it did. -/
def fnWithLoaderLastOneWinsSpec : ChangeSpec := { name := "fnWithLoaderLastOneWins", fn := fun _ => fun
  | [d1, d2, d3, d4] => { results := [.lit (.bool true)], args := [d1, d2, d3, d4] }
  | _ => none }
def fnWithLoaderLastOneWinsRow : OpenClaim := { program := "qxb6618527a", sum := "a2db66538c622065076b8209060aea0aaa3cbbe375203a8e54f765f439e9db3d", func := "example.com/assay/assay/zzlaws_root_b1.FnWithLoaderLastOneWins", spec := "fnWithLoaderLastOneWins", unfollowed := true, recurses := true, apart := false }
def FnWithLoaderLastOneWinsSaid : Prop := fnWithLoaderLastOneWinsRow.holds Try.pinned (OpenSpec.ofChange fnWithLoaderLastOneWinsSpec)

/-- ITS FALSE NEIGHBOUR: 'it returns false'. Refute it at one input. -/
def fnWithLoaderLastOneWinsWrong : ChangeSpec := { name := "fnWithLoaderLastOneWins", fn := fun _ => fun
  | [d1, d2, d3, d4] => { results := [.lit (.bool false)], args := [d1, d2, d3, d4] }
  | _ => none }
def FnWithLoaderLastOneWinsWrongFalsely : Prop := fnWithLoaderLastOneWinsRow.holds Try.pinned (OpenSpec.ofChange fnWithLoaderLastOneWinsWrong)

/-- 'zzlaws_root_b1.FnSlotStepsByTheOddConstantAndRepeatsEveryTableLength': WHATEVER THE INPUT: true; the input reads as it did. -/
def fnSlotStepsByTheOddConstantAndRepeatsEveryTableLengthSpec : ChangeSpec := { name := "fnSlotStepsByTheOddConstantAndRepeatsEveryTableLength", fn := fun _ => fun
  | [d1, d2] => { results := [.lit (.bool true)], args := [d1, d2] }
  | _ => none }
def fnSlotStepsByTheOddConstantAndRepeatsEveryTableLengthRow : OpenClaim := { program := "qxb6618527a", sum := "a2db66538c622065076b8209060aea0aaa3cbbe375203a8e54f765f439e9db3d", func := "example.com/assay/assay/zzlaws_root_b1.FnSlotStepsByTheOddConstantAndRepeatsEveryTableLength", spec := "fnSlotStepsByTheOddConstantAndRepeatsEveryTableLength", apart := false }
def FnSlotStepsByTheOddConstantAndRepeatsEveryTableLengthSaid : Prop := fnSlotStepsByTheOddConstantAndRepeatsEveryTableLengthRow.holds Try.pinned (OpenSpec.ofChange fnSlotStepsByTheOddConstantAndRepeatsEveryTableLengthSpec)

/-- ITS FALSE NEIGHBOUR: 'it returns false'. Refute it at one input. -/
def fnSlotStepsByTheOddConstantAndRepeatsEveryTableLengthWrong : ChangeSpec := { name := "fnSlotStepsByTheOddConstantAndRepeatsEveryTableLength", fn := fun _ => fun
  | [d1, d2] => { results := [.lit (.bool false)], args := [d1, d2] }
  | _ => none }
def FnSlotStepsByTheOddConstantAndRepeatsEveryTableLengthWrongFalsely : Prop := fnSlotStepsByTheOddConstantAndRepeatsEveryTableLengthRow.holds Try.pinned (OpenSpec.ofChange fnSlotStepsByTheOddConstantAndRepeatsEveryTableLengthWrong)

/-- 'zzlaws_root_b1.FnSlotSendsAnyNConsecutiveIdsToNDistinctSlots': WHATEVER THE INPUT: true; the input reads as it did. -/
def fnSlotSendsAnyNConsecutiveIdsToNDistinctSlotsSpec : ChangeSpec := { name := "fnSlotSendsAnyNConsecutiveIdsToNDistinctSlots", fn := fun _ => fun
  | [d1, d2] => { results := [.lit (.bool true)], args := [d1, d2] }
  | _ => none }
def fnSlotSendsAnyNConsecutiveIdsToNDistinctSlotsRow : OpenClaim := { program := "qxb6618527a", sum := "a2db66538c622065076b8209060aea0aaa3cbbe375203a8e54f765f439e9db3d", func := "example.com/assay/assay/zzlaws_root_b1.FnSlotSendsAnyNConsecutiveIdsToNDistinctSlots", spec := "fnSlotSendsAnyNConsecutiveIdsToNDistinctSlots", apart := false }
def FnSlotSendsAnyNConsecutiveIdsToNDistinctSlotsSaid : Prop := fnSlotSendsAnyNConsecutiveIdsToNDistinctSlotsRow.holds Try.pinned (OpenSpec.ofChange fnSlotSendsAnyNConsecutiveIdsToNDistinctSlotsSpec)

/-- ITS FALSE NEIGHBOUR: 'it returns false'. Refute it at one input. -/
def fnSlotSendsAnyNConsecutiveIdsToNDistinctSlotsWrong : ChangeSpec := { name := "fnSlotSendsAnyNConsecutiveIdsToNDistinctSlots", fn := fun _ => fun
  | [d1, d2] => { results := [.lit (.bool false)], args := [d1, d2] }
  | _ => none }
def FnSlotSendsAnyNConsecutiveIdsToNDistinctSlotsWrongFalsely : Prop := fnSlotSendsAnyNConsecutiveIdsToNDistinctSlotsRow.holds Try.pinned (OpenSpec.ofChange fnSlotSendsAnyNConsecutiveIdsToNDistinctSlotsWrong)

end Rows
end Go.Proofs.Qxb6618527a
