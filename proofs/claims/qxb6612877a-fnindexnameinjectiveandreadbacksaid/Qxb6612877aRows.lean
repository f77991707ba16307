/-
  No cell of these rows narrows 'for every input' (looked for: loops, veiled, ifaces, maps, wideKeys, modest, calm, conditions, laid).
  DERIVED. THE GIVEN ROWS OF THIS SEAT. 1 by the template 'for every input the law returns true; each argument reads behind the call as it read before'; 0 by the template 'total and deterministic' (their statements: Qxb6612877aTotals.lean).
  GIVEN WITH THE SEED: the statements are not yours to turn. If you find one false, say at which input.
  Laid BY PROGRAM, IN A SANDBOX (cutbox-rows.mjs): the forced cells as the released guide's own fill.sh prints them over the translation a517a7cb7449eb86… (all of the seat's roots in one cut). By AI agents, Wed Nov 11 2026. No macro, syntax, notation, axiom, sorry.
-/
import Derived.Test.Qxb6612877aChecked
import GoSem.Claim
import GoSem.ClaimJoined
import GoSem.ClaimMapViews
import Derived.JoinedTies
import Derived.KernelRfl
namespace Go.Proofs.Qxb6612877a
/- THE CELL 'sum', in the pinned program and in every row, IS THE sha256 OF THE DUMP (.gsa) THAT Qxb6612877aProg.lean LOADS. Nothing in Lean hashes anything: it is a label: what it is worth is what the hold of that sum in a sandbox is worth. -/
noncomputable def Try.pinned : Pinned := { name := "qxb6612877a", sum := "a517a7cb7449eb86fae5559579f3a375444276229f382ba5f3e3cfc2d94d440c", checked := Try.checked }
namespace Rows
def none {H : Type} : Left H := { results := [], args := [] }

/-- 'zzlaws_internal_ofd_b1.FnIndexNameInjectiveAndReadBack': WHATEVER THE INPUT: true; the input reads as it did. -/
def fnIndexNameInjectiveAndReadBackSpec : ChangeSpec := { name := "fnIndexNameInjectiveAndReadBack", fn := fun _ => fun
  | [d1, d2, d3, d4, d5, d6] => { results := [.lit (.bool true)], args := [d1, d2, d3, d4, d5, d6] }
  | _ => none }
def fnIndexNameInjectiveAndReadBackRow : OpenClaim := { program := "qxb6612877a", sum := "a517a7cb7449eb86fae5559579f3a375444276229f382ba5f3e3cfc2d94d440c", func := "example.com/longyear/longyear/zzlaws_internal_ofd_b1.FnIndexNameInjectiveAndReadBack", spec := "fnIndexNameInjectiveAndReadBack", apart := false }
def FnIndexNameInjectiveAndReadBackSaid : Prop := fnIndexNameInjectiveAndReadBackRow.holds Try.pinned (OpenSpec.ofChange fnIndexNameInjectiveAndReadBackSpec)

/-- ITS FALSE NEIGHBOUR: 'it returns false'. Refute it at one input. -/
def fnIndexNameInjectiveAndReadBackWrong : ChangeSpec := { name := "fnIndexNameInjectiveAndReadBack", fn := fun _ => fun
  | [d1, d2, d3, d4, d5, d6] => { results := [.lit (.bool false)], args := [d1, d2, d3, d4, d5, d6] }
  | _ => none }
def FnIndexNameInjectiveAndReadBackWrongFalsely : Prop := fnIndexNameInjectiveAndReadBackRow.holds Try.pinned (OpenSpec.ofChange fnIndexNameInjectiveAndReadBackWrong)

end Rows
end Go.Proofs.Qxb6612877a
