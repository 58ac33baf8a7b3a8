/-
  No cell of these rows narrows 'for every input' (looked for: loops, veiled, ifaces, maps, wideKeys, modest, calm, conditions, laid).
  DERIVED. THE GIVEN ROWS OF THIS SEAT. 2 by the template 'for every input the law returns true; each argument reads behind the call as it read before'; 0 by the template 'total and deterministic' (their statements: Qxb6629374aTotals.lean).
  GIVEN WITH THE SEED: the statements are not yours to turn. If you find one false, say at which input.
  Laid BY PROGRAM, IN A SANDBOX (cutbox-rows.mjs): the forced cells as the released guide's own fill.sh prints them over the translation 9d23898b54389d83… (all of the seat's roots in one cut). By AI agents, Wed Nov 11 2026. No macro, syntax, notation, axiom, sorry.
-/
import Derived.Test.Qxb6629374aChecked
import GoSem.Claim
import GoSem.ClaimJoined
import GoSem.ClaimMapViews
import Derived.JoinedTies
import Derived.KernelRfl
namespace Go.Proofs.Qxb6629374a
/- THE CELL 'sum', in the pinned program and in every row, IS THE sha256 OF THE DUMP (.gsa) THAT Qxb6629374aProg.lean LOADS. Nothing in Lean hashes anything: it is a label: what it is worth is what the hold of that sum in a sandbox is worth. -/
noncomputable def Try.pinned : Pinned := { name := "qxb6629374a", sum := "9d23898b54389d83dea89fa8fcaab109ec0dca52c6a4895e62e0f3a0b290af57", checked := Try.checked }
namespace Rows
def none {H : Type} : Left H := { results := [], args := [] }

/-- 'zzlaws_internal_check_b1.FnRecordsSplitAtAnyCut': WHATEVER THE INPUT: true; the input reads as it did. -/
def fnRecordsSplitAtAnyCutSpec : ChangeSpec := { name := "fnRecordsSplitAtAnyCut", fn := fun _ => fun
  | [d1, d2] => { results := [.lit (.bool true)], args := [d1, d2] }
  | _ => none }
def fnRecordsSplitAtAnyCutRow : OpenClaim := { program := "qxb6629374a", sum := "9d23898b54389d83dea89fa8fcaab109ec0dca52c6a4895e62e0f3a0b290af57", func := "example.com/vestbook/vestbook/zzlaws_internal_check_b1.FnRecordsSplitAtAnyCut", spec := "fnRecordsSplitAtAnyCut", apart := false }
def FnRecordsSplitAtAnyCutSaid : Prop := fnRecordsSplitAtAnyCutRow.holds Try.pinned (OpenSpec.ofChange fnRecordsSplitAtAnyCutSpec)

/-- ITS FALSE NEIGHBOUR: 'it returns false'. Refute it at one input. -/
def fnRecordsSplitAtAnyCutWrong : ChangeSpec := { name := "fnRecordsSplitAtAnyCut", fn := fun _ => fun
  | [d1, d2] => { results := [.lit (.bool false)], args := [d1, d2] }
  | _ => none }
def FnRecordsSplitAtAnyCutWrongFalsely : Prop := fnRecordsSplitAtAnyCutRow.holds Try.pinned (OpenSpec.ofChange fnRecordsSplitAtAnyCutWrong)

/-- 'zzlaws_internal_check_b1.FnRecordsFlipOneBreach': WHATEVER THE INPUT: true; the input reads as it did. -/
def fnRecordsFlipOneBreachSpec : ChangeSpec := { name := "fnRecordsFlipOneBreach", fn := fun _ => fun
  | [d1, d2] => { results := [.lit (.bool true)], args := [d1, d2] }
  | _ => none }
def fnRecordsFlipOneBreachRow : OpenClaim := { program := "qxb6629374a", sum := "9d23898b54389d83dea89fa8fcaab109ec0dca52c6a4895e62e0f3a0b290af57", func := "example.com/vestbook/vestbook/zzlaws_internal_check_b1.FnRecordsFlipOneBreach", spec := "fnRecordsFlipOneBreach", apart := false }
def FnRecordsFlipOneBreachSaid : Prop := fnRecordsFlipOneBreachRow.holds Try.pinned (OpenSpec.ofChange fnRecordsFlipOneBreachSpec)

/-- ITS FALSE NEIGHBOUR: 'it returns false'. Refute it at one input. -/
def fnRecordsFlipOneBreachWrong : ChangeSpec := { name := "fnRecordsFlipOneBreach", fn := fun _ => fun
  | [d1, d2] => { results := [.lit (.bool false)], args := [d1, d2] }
  | _ => none }
def FnRecordsFlipOneBreachWrongFalsely : Prop := fnRecordsFlipOneBreachRow.holds Try.pinned (OpenSpec.ofChange fnRecordsFlipOneBreachWrong)

end Rows
end Go.Proofs.Qxb6629374a
