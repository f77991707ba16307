/-
  DERIVED. GIVEN WITH THE SEED: THE CARDS: each row of Qxb6609418aDoorRows.lean that lists a variable, with what it lists TIED to the program's text (the seventh form; the later family's looks); each row that meets fmt, with fmt's text TOLD by the authors' own Lean function (tested against real Go, not proved from fmt's source: count such statements apart). THE CARD IS WHAT COUNTS. Prove the row's statement (the work); the ties are given (Qxb6609418aDoorTie.lean); close each card by the builder's one call (the guide's Derived/Test/ToyasCard.lean, 'card_holds'). Laid BY PROGRAM, IN A SANDBOX (cutbox-door.mjs). By AI agents, Wed Nov 11 2026. No macro, syntax, notation, axiom, sorry.
-/
import Derived.Test.Qxb6609418aDoorRows
import GoSem.ClaimSeven
namespace Go.Proofs.Qxb6609418aDoor
namespace Rows

/-- THE TIED CARD OF 'zzlaws_internal_apacheconf_b1.FnNamedBySetAnswersAsLowest'. -/
def fnNamedBySetAnswersAsLowestCard : Claim7 := { stood := { row := fnNamedBySetAnswersAsLowestRow, standIns := [], harness := (true, "ee53211bf8dadaf7ae6816e89e4267f195a608179f25b6bb0e9fa10d98868121"), looks := false }, kinds := [], alts := [], laidByText := true, laidKinds := [.data], laidTests := true, laidLooks := .later }
def FnNamedBySetAnswersAsLowestCardSaid : Prop := Claim7.holds Tryd.pinned (.plain (OpenSpec.ofChange fnNamedBySetAnswersAsLowestSpec)) fnNamedBySetAnswersAsLowestCard
end Rows
end Go.Proofs.Qxb6609418aDoor
