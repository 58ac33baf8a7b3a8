/-
  No cell of these rows narrows 'for every input' (looked for: loops, veiled, ifaces, maps, wideKeys, modest, calm, conditions, laid).
  DERIVED. THE GIVEN ROWS OF THIS SEAT. 2 by the template 'for every input the law returns true; each argument reads behind the call as it read before'; 0 by the template 'total and deterministic' (their statements: Qxb6629258aTotals.lean).
  GIVEN WITH THE SEED: the statements are not yours to turn. If you find one false, say at which input.
  Laid BY PROGRAM, IN A SANDBOX (cutbox-rows.mjs): the forced cells as the released guide's own fill.sh prints them over the translation 36224b46470f15b6… (all of the seat's roots in one cut). By AI agents, Wed Nov 11 2026. No macro, syntax, notation, axiom, sorry.
-/
import Derived.Test.Qxb6629258aChecked
import GoSem.Claim
import GoSem.ClaimJoined
import GoSem.ClaimMapViews
import Derived.JoinedTies
import Derived.KernelRfl
namespace Go.Proofs.Qxb6629258a
/- THE CELL 'sum', in the pinned program and in every row, IS THE sha256 OF THE DUMP (.gsa) THAT Qxb6629258aProg.lean LOADS. Nothing in Lean hashes anything: it is a label: what it is worth is what the hold of that sum in a sandbox is worth. -/
noncomputable def Try.pinned : Pinned := { name := "qxb6629258a", sum := "36224b46470f15b6c6c75cb9e9a6552c448dcd5a77a210d495c4fde16e6673f7", checked := Try.checked }
namespace Rows
def none {H : Type} : Left H := { results := [], args := [] }

/-- 'zzlaws_pkg_gid_b1.FnValidMatchesAlphabetSpec': WHATEVER THE INPUT: true; the input reads as it did. -/
def fnValidMatchesAlphabetSpecSpec : ChangeSpec := { name := "fnValidMatchesAlphabetSpec", fn := fun _ => fun
  | [d] => { results := [.lit (.bool true)], args := [d] }
  | _ => none }
def fnValidMatchesAlphabetSpecRow : OpenClaim := { program := "qxb6629258a", sum := "36224b46470f15b6c6c75cb9e9a6552c448dcd5a77a210d495c4fde16e6673f7", func := "example.com/palisade/palisade/zzlaws_pkg_gid_b1.FnValidMatchesAlphabetSpec", spec := "fnValidMatchesAlphabetSpec", apart := false }
def FnValidMatchesAlphabetSpecSaid : Prop := fnValidMatchesAlphabetSpecRow.holds Try.pinned (OpenSpec.ofChange fnValidMatchesAlphabetSpecSpec)

/-- ITS FALSE NEIGHBOUR: 'it returns false'. Refute it at one input. -/
def fnValidMatchesAlphabetSpecWrong : ChangeSpec := { name := "fnValidMatchesAlphabetSpec", fn := fun _ => fun
  | [d] => { results := [.lit (.bool false)], args := [d] }
  | _ => none }
def FnValidMatchesAlphabetSpecWrongFalsely : Prop := fnValidMatchesAlphabetSpecRow.holds Try.pinned (OpenSpec.ofChange fnValidMatchesAlphabetSpecWrong)

/-- 'zzlaws_pkg_gid_b1.FnValidPaddingAnywhere': WHATEVER THE INPUT: true; the input reads as it did. -/
def fnValidPaddingAnywhereSpec : ChangeSpec := { name := "fnValidPaddingAnywhere", fn := fun _ => fun
  | [d1, d2, d3] => { results := [.lit (.bool true)], args := [d1, d2, d3] }
  | _ => none }
def fnValidPaddingAnywhereRow : OpenClaim := { program := "qxb6629258a", sum := "36224b46470f15b6c6c75cb9e9a6552c448dcd5a77a210d495c4fde16e6673f7", func := "example.com/palisade/palisade/zzlaws_pkg_gid_b1.FnValidPaddingAnywhere", spec := "fnValidPaddingAnywhere", apart := false }
def FnValidPaddingAnywhereSaid : Prop := fnValidPaddingAnywhereRow.holds Try.pinned (OpenSpec.ofChange fnValidPaddingAnywhereSpec)

/-- ITS FALSE NEIGHBOUR: 'it returns false'. Refute it at one input. -/
def fnValidPaddingAnywhereWrong : ChangeSpec := { name := "fnValidPaddingAnywhere", fn := fun _ => fun
  | [d1, d2, d3] => { results := [.lit (.bool false)], args := [d1, d2, d3] }
  | _ => none }
def FnValidPaddingAnywhereWrongFalsely : Prop := fnValidPaddingAnywhereRow.holds Try.pinned (OpenSpec.ofChange fnValidPaddingAnywhereWrong)

end Rows
end Go.Proofs.Qxb6629258a
