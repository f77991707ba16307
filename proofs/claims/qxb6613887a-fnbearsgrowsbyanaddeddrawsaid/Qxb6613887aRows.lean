/-
  No cell of these rows narrows 'for every input' (looked for: loops, veiled, ifaces, maps, wideKeys, modest, calm, conditions, laid).
  DERIVED. THE GIVEN ROWS OF THIS SEAT. 2 by the template 'for every input the law returns true; each argument reads behind the call as it read before'; 0 by the template 'total and deterministic' (their statements: Qxb6613887aTotals.lean).
  GIVEN WITH THE SEED: the statements are not yours to turn. If you find one false, say at which input.
  Laid BY PROGRAM, IN A SANDBOX (cutbox-rows.mjs): the forced cells as the released guide's own fill.sh prints them over the translation d51155651fa5c2aa… (all of the seat's roots in one cut). By AI agents, Wed Nov 11 2026. No macro, syntax, notation, axiom, sorry.
-/
import Derived.Test.Qxb6613887aChecked
import GoSem.Claim
import GoSem.ClaimJoined
import GoSem.ClaimMapViews
import Derived.JoinedTies
import Derived.KernelRfl
namespace Go.Proofs.Qxb6613887a
/- THE CELL 'sum', in the pinned program and in every row, IS THE sha256 OF THE DUMP (.gsa) THAT Qxb6613887aProg.lean LOADS. Nothing in Lean hashes anything: it is a label: what it is worth is what the hold of that sum in a sandbox is worth. -/
noncomputable def Try.pinned : Pinned := { name := "qxb6613887a", sum := "d51155651fa5c2aa9a81c2618a47eecdaf8279cee6211fdf31935e0aa7d2cb4c", checked := Try.checked }
namespace Rows
def none {H : Type} : Left H := { results := [], args := [] }

/-- 'zzlaws_pkg_analysis_b1.FnBearsIsConeReachability': WHATEVER THE INPUT: true; the input reads as it did. -/
def fnBearsIsConeReachabilitySpec : ChangeSpec := { name := "fnBearsIsConeReachability", fn := fun _ => fun
  | [d1, d2, d3, d4, d5, d6] => { results := [.lit (.bool true)], args := [d1, d2, d3, d4, d5, d6] }
  | _ => none }
def fnBearsIsConeReachabilityRow : OpenClaim := { program := "qxb6613887a", sum := "d51155651fa5c2aa9a81c2618a47eecdaf8279cee6211fdf31935e0aa7d2cb4c", func := "example.com/delpa/delpa/zzlaws_pkg_analysis_b1.FnBearsIsConeReachability", spec := "fnBearsIsConeReachability", unfollowed := true, recurses := true, plainKeys := false, apart := false }
def FnBearsIsConeReachabilitySaid : Prop := fnBearsIsConeReachabilityRow.holds Try.pinned (OpenSpec.ofChange fnBearsIsConeReachabilitySpec)

/-- ITS FALSE NEIGHBOUR: 'it returns false'. Refute it at one input. -/
def fnBearsIsConeReachabilityWrong : ChangeSpec := { name := "fnBearsIsConeReachability", fn := fun _ => fun
  | [d1, d2, d3, d4, d5, d6] => { results := [.lit (.bool false)], args := [d1, d2, d3, d4, d5, d6] }
  | _ => none }
def FnBearsIsConeReachabilityWrongFalsely : Prop := fnBearsIsConeReachabilityRow.holds Try.pinned (OpenSpec.ofChange fnBearsIsConeReachabilityWrong)

/-- 'zzlaws_pkg_analysis_b1.FnBearsGrowsByAnAddedDraw': WHATEVER THE INPUT: true; the input reads as it did. -/
def fnBearsGrowsByAnAddedDrawSpec : ChangeSpec := { name := "fnBearsGrowsByAnAddedDraw", fn := fun _ => fun
  | [d1, d2, d3, d4, d5, d6, d7, d8] => { results := [.lit (.bool true)], args := [d1, d2, d3, d4, d5, d6, d7, d8] }
  | _ => none }
def fnBearsGrowsByAnAddedDrawRow : OpenClaim := { program := "qxb6613887a", sum := "d51155651fa5c2aa9a81c2618a47eecdaf8279cee6211fdf31935e0aa7d2cb4c", func := "example.com/delpa/delpa/zzlaws_pkg_analysis_b1.FnBearsGrowsByAnAddedDraw", spec := "fnBearsGrowsByAnAddedDraw", unfollowed := true, recurses := true, plainKeys := false, apart := false }
def FnBearsGrowsByAnAddedDrawSaid : Prop := fnBearsGrowsByAnAddedDrawRow.holds Try.pinned (OpenSpec.ofChange fnBearsGrowsByAnAddedDrawSpec)

/-- ITS FALSE NEIGHBOUR: 'it returns false'. Refute it at one input. -/
def fnBearsGrowsByAnAddedDrawWrong : ChangeSpec := { name := "fnBearsGrowsByAnAddedDraw", fn := fun _ => fun
  | [d1, d2, d3, d4, d5, d6, d7, d8] => { results := [.lit (.bool false)], args := [d1, d2, d3, d4, d5, d6, d7, d8] }
  | _ => none }
def FnBearsGrowsByAnAddedDrawWrongFalsely : Prop := fnBearsGrowsByAnAddedDrawRow.holds Try.pinned (OpenSpec.ofChange fnBearsGrowsByAnAddedDrawWrong)

end Rows
end Go.Proofs.Qxb6613887a
