/-
  No cell of these rows narrows 'for every input' (looked for: loops, veiled, ifaces, maps, wideKeys, modest, calm, conditions, laid).
  DERIVED. THE GIVEN ROWS OF THIS SEAT. 1 by the template 'for every input the law returns true; each argument reads behind the call as it read before'; 0 by the template 'total and deterministic' (their statements: Qxb6612559aTotals.lean).
  GIVEN WITH THE SEED: the statements are not yours to turn. If you find one false, say at which input.
  Laid BY PROGRAM, IN A SANDBOX (cutbox-rows.mjs): the forced cells as the released guide's own fill.sh prints them over the translation 01b4fdd2f2e1f48a… (all of the seat's roots in one cut). By AI agents, Wed Nov 11 2026. No macro, syntax, notation, axiom, sorry.
-/
import Derived.Test.Qxb6612559aChecked
import GoSem.Claim
import GoSem.ClaimJoined
import GoSem.ClaimMapViews
import Derived.JoinedTies
import Derived.KernelRfl
namespace Go.Proofs.Qxb6612559a
/- THE CELL 'sum', in the pinned program and in every row, IS THE sha256 OF THE DUMP (.gsa) THAT Qxb6612559aProg.lean LOADS. Nothing in Lean hashes anything: it is a label: what it is worth is what the hold of that sum in a sandbox is worth. -/
noncomputable def Try.pinned : Pinned := { name := "qxb6612559a", sum := "01b4fdd2f2e1f48aa918ae4445ce5db7400d644d908f3c1a4a0682da9c812ed2", checked := Try.checked }
namespace Rows
def none {H : Type} : Left H := { results := [], args := [] }

/-- 'zzlaws_internal_jsondoc_b1.FnSortedFormSortsObjectMembers': WHATEVER THE INPUT: true; the input reads as it did. -/
def fnSortedFormSortsObjectMembersSpec : ChangeSpec := { name := "fnSortedFormSortsObjectMembers", fn := fun _ => fun
  | [d1, d2] => { results := [.lit (.bool true)], args := [d1, d2] }
  | _ => none }
def fnSortedFormSortsObjectMembersRow : OpenClaim := { program := "qxb6612559a", sum := "01b4fdd2f2e1f48aa918ae4445ce5db7400d644d908f3c1a4a0682da9c812ed2", func := "example.com/planfold/planfold/zzlaws_internal_jsondoc_b1.FnSortedFormSortsObjectMembers", spec := "fnSortedFormSortsObjectMembers", unfollowed := true, recurses := true, apart := false }
def FnSortedFormSortsObjectMembersSaid : Prop := fnSortedFormSortsObjectMembersRow.holds Try.pinned (OpenSpec.ofChange fnSortedFormSortsObjectMembersSpec)

/-- ITS FALSE NEIGHBOUR: 'it returns false'. Refute it at one input. -/
def fnSortedFormSortsObjectMembersWrong : ChangeSpec := { name := "fnSortedFormSortsObjectMembers", fn := fun _ => fun
  | [d1, d2] => { results := [.lit (.bool false)], args := [d1, d2] }
  | _ => none }
def FnSortedFormSortsObjectMembersWrongFalsely : Prop := fnSortedFormSortsObjectMembersRow.holds Try.pinned (OpenSpec.ofChange fnSortedFormSortsObjectMembersWrong)

end Rows
end Go.Proofs.Qxb6612559a
