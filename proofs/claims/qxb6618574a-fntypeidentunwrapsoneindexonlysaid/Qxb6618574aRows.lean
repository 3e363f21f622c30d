/-
  No cell of these rows narrows 'for every input' (looked for: loops, veiled, ifaces, maps, wideKeys, modest, calm, conditions, laid).
  DERIVED. THE GIVEN ROWS OF THIS SEAT. 3 by the template 'for every input the law returns true; each argument reads behind the call as it read before'; 0 by the template 'total and deterministic' (their statements: Qxb6618574aTotals.lean).
  GIVEN WITH THE SEED: the statements are not yours to turn. If you find one false, say at which input.
  Laid BY PROGRAM, IN A SANDBOX (cutbox-rows.mjs): the forced cells as the released guide's own fill.sh prints them over the translation f75f16831910d601… (all of the seat's roots in one cut). By AI agents, Wed Nov 11 2026. No macro, syntax, notation, axiom, sorry.
-/
import Derived.Test.Qxb6618574aChecked
import GoSem.Claim
import GoSem.ClaimJoined
import GoSem.ClaimMapViews
import Derived.JoinedTies
import Derived.KernelRfl
namespace Go.Proofs.Qxb6618574a
/- THE CELL 'sum', in the pinned program and in every row, IS THE sha256 OF THE DUMP (.gsa) THAT Qxb6618574aProg.lean LOADS. Nothing in Lean hashes anything: it is a label: what it is worth is what the hold of that sum in a sandbox is worth. -/
noncomputable def Try.pinned : Pinned := { name := "qxb6618574a", sum := "f75f16831910d6014e772fa761428d47ac147ff1984dfb9e7d1de68221db529d", checked := Try.checked }
namespace Rows
def none {H : Type} : Left H := { results := [], args := [] }

/-- 'zzlaws_internal_layout_b1.FnLinesSplitAtAnyByte': WHATEVER THE INPUT: true; the input reads as it did. -/
def fnLinesSplitAtAnyByteSpec : ChangeSpec := { name := "fnLinesSplitAtAnyByte", fn := fun _ => fun
  | [d1, d2, d3, d4] => { results := [.lit (.bool true)], args := [d1, d2, d3, d4] }
  | _ => none }
def fnLinesSplitAtAnyByteRow : OpenClaim := { program := "qxb6618574a", sum := "f75f16831910d6014e772fa761428d47ac147ff1984dfb9e7d1de68221db529d", func := "example.com/linebound/linebound/zzlaws_internal_layout_b1.FnLinesSplitAtAnyByte", spec := "fnLinesSplitAtAnyByte", apart := false }
def FnLinesSplitAtAnyByteSaid : Prop := fnLinesSplitAtAnyByteRow.holds Try.pinned (OpenSpec.ofChange fnLinesSplitAtAnyByteSpec)

/-- ITS FALSE NEIGHBOUR: 'it returns false'. Refute it at one input. -/
def fnLinesSplitAtAnyByteWrong : ChangeSpec := { name := "fnLinesSplitAtAnyByte", fn := fun _ => fun
  | [d1, d2, d3, d4] => { results := [.lit (.bool false)], args := [d1, d2, d3, d4] }
  | _ => none }
def FnLinesSplitAtAnyByteWrongFalsely : Prop := fnLinesSplitAtAnyByteRow.holds Try.pinned (OpenSpec.ofChange fnLinesSplitAtAnyByteWrong)

/-- 'zzlaws_internal_layout_b1.FnLinesShiftByWholeLines': WHATEVER THE INPUT: true; the input reads as it did. -/
def fnLinesShiftByWholeLinesSpec : ChangeSpec := { name := "fnLinesShiftByWholeLines", fn := fun _ => fun
  | [d1, d2, d3, d4] => { results := [.lit (.bool true)], args := [d1, d2, d3, d4] }
  | _ => none }
def fnLinesShiftByWholeLinesRow : OpenClaim := { program := "qxb6618574a", sum := "f75f16831910d6014e772fa761428d47ac147ff1984dfb9e7d1de68221db529d", func := "example.com/linebound/linebound/zzlaws_internal_layout_b1.FnLinesShiftByWholeLines", spec := "fnLinesShiftByWholeLines", apart := false }
def FnLinesShiftByWholeLinesSaid : Prop := fnLinesShiftByWholeLinesRow.holds Try.pinned (OpenSpec.ofChange fnLinesShiftByWholeLinesSpec)

/-- ITS FALSE NEIGHBOUR: 'it returns false'. Refute it at one input. -/
def fnLinesShiftByWholeLinesWrong : ChangeSpec := { name := "fnLinesShiftByWholeLines", fn := fun _ => fun
  | [d1, d2, d3, d4] => { results := [.lit (.bool false)], args := [d1, d2, d3, d4] }
  | _ => none }
def FnLinesShiftByWholeLinesWrongFalsely : Prop := fnLinesShiftByWholeLinesRow.holds Try.pinned (OpenSpec.ofChange fnLinesShiftByWholeLinesWrong)

/-- 'zzlaws_internal_layout_b1.FnTypeIdentUnwrapsOneIndexOnly': WHATEVER THE INPUT: true; the input reads as it did. -/
def fnTypeIdentUnwrapsOneIndexOnlySpec : ChangeSpec := { name := "fnTypeIdentUnwrapsOneIndexOnly", fn := fun _ => fun
  | [d1, d2, d3, d4] => { results := [.lit (.bool true)], args := [d1, d2, d3, d4] }
  | _ => none }
def fnTypeIdentUnwrapsOneIndexOnlyRow : OpenClaim := { program := "qxb6618574a", sum := "f75f16831910d6014e772fa761428d47ac147ff1984dfb9e7d1de68221db529d", func := "example.com/linebound/linebound/zzlaws_internal_layout_b1.FnTypeIdentUnwrapsOneIndexOnly", spec := "fnTypeIdentUnwrapsOneIndexOnly", apart := false }
def FnTypeIdentUnwrapsOneIndexOnlySaid : Prop := fnTypeIdentUnwrapsOneIndexOnlyRow.holds Try.pinned (OpenSpec.ofChange fnTypeIdentUnwrapsOneIndexOnlySpec)

/-- ITS FALSE NEIGHBOUR: 'it returns false'. Refute it at one input. -/
def fnTypeIdentUnwrapsOneIndexOnlyWrong : ChangeSpec := { name := "fnTypeIdentUnwrapsOneIndexOnly", fn := fun _ => fun
  | [d1, d2, d3, d4] => { results := [.lit (.bool false)], args := [d1, d2, d3, d4] }
  | _ => none }
def FnTypeIdentUnwrapsOneIndexOnlyWrongFalsely : Prop := fnTypeIdentUnwrapsOneIndexOnlyRow.holds Try.pinned (OpenSpec.ofChange fnTypeIdentUnwrapsOneIndexOnlyWrong)

end Rows
end Go.Proofs.Qxb6618574a
