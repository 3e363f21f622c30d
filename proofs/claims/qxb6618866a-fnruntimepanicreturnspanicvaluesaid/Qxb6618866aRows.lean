/-
  No cell of these rows narrows 'for every input' (looked for: loops, veiled, ifaces, maps, wideKeys, modest, calm, conditions, laid).
  DERIVED. THE GIVEN ROWS OF THIS SEAT. 4 by the template 'for every input the law returns true; each argument reads behind the call as it read before'; 0 by the template 'total and deterministic' (their statements: Qxb6618866aTotals.lean).
  GIVEN WITH THE SEED: the statements are not yours to turn. If you find one false, say at which input.
  Laid BY PROGRAM, IN A SANDBOX (cutbox-rows.mjs): the forced cells as the released guide's own fill.sh prints them over the translation 7168cea125365691… (all of the seat's roots in one cut). By AI agents, Wed Nov 11 2026. No macro, syntax, notation, axiom, sorry.
-/
import Derived.Test.Qxb6618866aChecked
import GoSem.Claim
import GoSem.ClaimJoined
import GoSem.ClaimMapViews
import Derived.JoinedTies
import Derived.KernelRfl
namespace Go.Proofs.Qxb6618866a
/- THE CELL 'sum', in the pinned program and in every row, IS THE sha256 OF THE DUMP (.gsa) THAT Qxb6618866aProg.lean LOADS. Nothing in Lean hashes anything: it is a label: what it is worth is what the hold of that sum in a sandbox is worth. -/
noncomputable def Try.pinned : Pinned := { name := "qxb6618866a", sum := "7168cea12536569145019d1c76f7e4f6d327ed73762886a4678512588eeb647a", checked := Try.checked }
namespace Rows
def none {H : Type} : Left H := { results := [], args := [] }

/-- 'zzlaws_root_b1.FnRuntimePanicReturnsPanicValue': WHATEVER THE INPUT: true; the input reads as it did. -/
def fnRuntimePanicReturnsPanicValueSpec : ChangeSpec := { name := "fnRuntimePanicReturnsPanicValue", fn := fun _ => fun
  | [d1, d2] => { results := [.lit (.bool true)], args := [d1, d2] }
  | _ => none }
def fnRuntimePanicReturnsPanicValueRow : OpenClaim := { program := "qxb6618866a", sum := "7168cea12536569145019d1c76f7e4f6d327ed73762886a4678512588eeb647a", func := "example.com/rangecraft/rangecraft/zzlaws_root_b1.FnRuntimePanicReturnsPanicValue", spec := "fnRuntimePanicReturnsPanicValue", unfollowed := true, recurses := true, apart := false }
def FnRuntimePanicReturnsPanicValueSaid : Prop := fnRuntimePanicReturnsPanicValueRow.holds Try.pinned (OpenSpec.ofChange fnRuntimePanicReturnsPanicValueSpec)

/-- ITS FALSE NEIGHBOUR: 'it returns false'. Refute it at one input. -/
def fnRuntimePanicReturnsPanicValueWrong : ChangeSpec := { name := "fnRuntimePanicReturnsPanicValue", fn := fun _ => fun
  | [d1, d2] => { results := [.lit (.bool false)], args := [d1, d2] }
  | _ => none }
def FnRuntimePanicReturnsPanicValueWrongFalsely : Prop := fnRuntimePanicReturnsPanicValueRow.holds Try.pinned (OpenSpec.ofChange fnRuntimePanicReturnsPanicValueWrong)

/-- 'zzlaws_root_b1.FnRuntimePanicRunsFOnce': WHATEVER THE INPUT: true; the input reads as it did. -/
def fnRuntimePanicRunsFOnceSpec : ChangeSpec := { name := "fnRuntimePanicRunsFOnce", fn := fun _ => fun
  | [d] => { results := [.lit (.bool true)], args := [d] }
  | _ => none }
def fnRuntimePanicRunsFOnceRow : OpenClaim := { program := "qxb6618866a", sum := "7168cea12536569145019d1c76f7e4f6d327ed73762886a4678512588eeb647a", func := "example.com/rangecraft/rangecraft/zzlaws_root_b1.FnRuntimePanicRunsFOnce", spec := "fnRuntimePanicRunsFOnce", unfollowed := true, recurses := true, apart := false }
def FnRuntimePanicRunsFOnceSaid : Prop := fnRuntimePanicRunsFOnceRow.holds Try.pinned (OpenSpec.ofChange fnRuntimePanicRunsFOnceSpec)

/-- ITS FALSE NEIGHBOUR: 'it returns false'. Refute it at one input. -/
def fnRuntimePanicRunsFOnceWrong : ChangeSpec := { name := "fnRuntimePanicRunsFOnce", fn := fun _ => fun
  | [d] => { results := [.lit (.bool false)], args := [d] }
  | _ => none }
def FnRuntimePanicRunsFOnceWrongFalsely : Prop := fnRuntimePanicRunsFOnceRow.holds Try.pinned (OpenSpec.ofChange fnRuntimePanicRunsFOnceWrong)

/-- 'zzlaws_root_b1.FnReadLinesTakesNothingYet': WHATEVER THE INPUT: true; the input reads as it did. -/
def fnReadLinesTakesNothingYetSpec : ChangeSpec := { name := "fnReadLinesTakesNothingYet", fn := fun _ => fun
  | [d] => { results := [.lit (.bool true)], args := [d] }
  | _ => none }
def fnReadLinesTakesNothingYetRow : OpenClaim := { program := "qxb6618866a", sum := "7168cea12536569145019d1c76f7e4f6d327ed73762886a4678512588eeb647a", func := "example.com/rangecraft/rangecraft/zzlaws_root_b1.FnReadLinesTakesNothingYet", spec := "fnReadLinesTakesNothingYet", apart := false }
def FnReadLinesTakesNothingYetSaid : Prop := fnReadLinesTakesNothingYetRow.holds Try.pinned (OpenSpec.ofChange fnReadLinesTakesNothingYetSpec)

/-- ITS FALSE NEIGHBOUR: 'it returns false'. Refute it at one input. -/
def fnReadLinesTakesNothingYetWrong : ChangeSpec := { name := "fnReadLinesTakesNothingYet", fn := fun _ => fun
  | [d] => { results := [.lit (.bool false)], args := [d] }
  | _ => none }
def FnReadLinesTakesNothingYetWrongFalsely : Prop := fnReadLinesTakesNothingYetRow.holds Try.pinned (OpenSpec.ofChange fnReadLinesTakesNothingYetWrong)

/-- 'zzlaws_root_b1.FnReadLinesReadersAreIndependent': WHATEVER THE INPUT: true; the input reads as it did. -/
def fnReadLinesReadersAreIndependentSpec : ChangeSpec := { name := "fnReadLinesReadersAreIndependent", fn := fun _ => fun
  | [d1, d2] => { results := [.lit (.bool true)], args := [d1, d2] }
  | _ => none }
def fnReadLinesReadersAreIndependentRow : OpenClaim := { program := "qxb6618866a", sum := "7168cea12536569145019d1c76f7e4f6d327ed73762886a4678512588eeb647a", func := "example.com/rangecraft/rangecraft/zzlaws_root_b1.FnReadLinesReadersAreIndependent", spec := "fnReadLinesReadersAreIndependent", apart := false }
def FnReadLinesReadersAreIndependentSaid : Prop := fnReadLinesReadersAreIndependentRow.holds Try.pinned (OpenSpec.ofChange fnReadLinesReadersAreIndependentSpec)

/-- ITS FALSE NEIGHBOUR: 'it returns false'. Refute it at one input. -/
def fnReadLinesReadersAreIndependentWrong : ChangeSpec := { name := "fnReadLinesReadersAreIndependent", fn := fun _ => fun
  | [d1, d2] => { results := [.lit (.bool false)], args := [d1, d2] }
  | _ => none }
def FnReadLinesReadersAreIndependentWrongFalsely : Prop := fnReadLinesReadersAreIndependentRow.holds Try.pinned (OpenSpec.ofChange fnReadLinesReadersAreIndependentWrong)

end Rows
end Go.Proofs.Qxb6618866a
