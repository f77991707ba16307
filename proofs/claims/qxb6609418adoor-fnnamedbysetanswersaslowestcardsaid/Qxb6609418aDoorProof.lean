import Derived.Test.Qxb6609418aDoorRows
import Derived.Test.Qxb6609418aDoorTie
import Derived.Test.Qxb6609418aDoorCards
import Derived.Test.Qxb6609418aDoorWalk2
import Derived.ProofKit
import Derived.LaidMore
import Derived.OpenShut
import Derived.ChangeOld
import Derived.Stop.Joined
import Derived.Lib.LaidTab
import Derived.SevenTiedAt
namespace Go.Proofs.Qxb6609418aDoor.FnNamedBySetAnswersAsLowest
open Go.ChangeShapes Go.WideShapes Go.ChangeAt Go.RowKit

theorem own : ownKnob Tryd.prog.godebug = none := by kernel_rfl
theorem laidOut : laidOutB Tryd.prog = true := by kernel_rfl
/-- The table's name, off the given row. -/
def tabName : String := Rows.fnNamedBySetAnswersAsLowestRow.named.headD ""
theorem gTab : Tryd.prog.globalNamed tabName = some 0 := by kernel_rfl
theorem tTab : (Tryd.prog.globals[0]?).map (·.type) = some 39 := by kernel_rfl
theorem c5 : Tryd.prog.cellsOf 5 = 1 := by kernel_rfl
theorem c39 : Tryd.prog.cellsOf 39 = 32 := by kernel_rfl

theorem laid_is : Rows.fnNamedBySetAnswersAsLowestRow.laid = [(tabName, Lib.tabData .u8 tab)] := rfl

theorem door_met (os : Os) (args : Array Value) : laidMetH Tryd.prog Rows.fnNamedBySetAnswersAsLowestRow.laid ((World.doorLaid Tryd.prog 14 os).forCall (fun _ _ => 0) ⟨#[], args, []⟩).memory :=
  laidMetH_of_parts3 (fuel := 8) (laidMet_of_run' 8 (by kernel_rfl) (by kernel_rfl)) (by kernel_rfl) (by kernel_rfl)

theorem of_laid {W : World} (h : laidMetH Tryd.prog Rows.fnNamedBySetAnswersAsLowestRow.laid W) : TabAt W := by
  rw [MakeChecks.laidMetH_plain _ _ _ (by kernel_rfl), laid_is] at h
  have hT := Lib.tabIs_of_head gTab tTab Tryd.underlying39 Tryd.underlying5 c5 c39 h
  exact fun i hi => hT.cell gTab i hi

set_option maxRecDepth 100000 in
theorem lifted (os : Os) (started : os.Started) (H : Type) (enc : TypeId × Value → H) :
    ReturnsInHanded {} Tryd.checked os 3 .any (fun w args => (Rows.fnNamedBySetAnswersAsLowestSpec.pre enc Tryd.prog Tryd.f3 [] false w args ∧ laidMetH Tryd.prog Rows.fnNamedBySetAnswersAsLowestRow.laid w) ∧ sizedMet enc Tryd.prog Tryd.f3 (OpenSpec.ofChange Rows.fnNamedBySetAnswersAsLowestSpec) false w args)
      (Rows.fnNamedBySetAnswersAsLowestSpec.post enc Tryd.prog Tryd.f3 false true false false) := by
  refine returnsInHanded_of_change_and (C := Tryd.checked) (X := fun w _ => laidMetH Tryd.prog Rows.fnNamedBySetAnswersAsLowestRow.laid w) (fun _ _ _ hh h => h.of_heap hh) own started (by kernel_rfl) Tryd.func3
    (ChangeSpec.witness_shaped (enc := enc) (C := Tryd.checked) (os := os) (X := fun w _ => laidMetH Tryd.prog Rows.fnNamedBySetAnswersAsLowestRow.laid w) false (World.doorLaid Tryd.prog 14 os) #[.int .u16 0, .int .u16 0, .int .u16 0] 8 rfl (World.shaped_of_RefB (by kernel_rfl) (by kernel_rfl)) (by kernel_rfl) (by kernel_rfl) (by kernel_rfl) (door_met os _)) ?_
  intro W base args ds gs before hval0 hW _ _ hL _
  have hval : ∀ (j : Nat) t v, Tryd.f3.params[j]? = some t → args[j]? = some v → Value.okWide Tryd.prog W .any base t v := hval0
  have hW' := hW
  obtain ⟨p, q, hA0, hV, rfl, hfz, hnd⟩ := hW
  have hA : DataW.TrodAll enc Tryd.prog W 0 (fun _ => true) true Tryd.f3.params.toList args.toList ds p := hA0
  rw [Tryd.params3] at hA hval
  obtain ⟨v0, v1, v2, d0, d1, d2, p0, p1, p2, rfl, rfl, rfl, h0, h1, h2⟩ := trodAll_three hA
  obtain ⟨rfl, rfl⟩ := trodVars_none hV
  obtain ⟨a, rfl, rfl, rfl, wa⟩ := open_int Tryd.underlying22 (hval 0 22 v0 rfl rfl) h0
  obtain ⟨b, rfl, rfl, rfl, wb⟩ := open_int Tryd.underlying22 (hval 1 22 v1 rfl rfl) h1
  obtain ⟨c, rfl, rfl, rfl, wc⟩ := open_int Tryd.underlying22 (hval 2 22 v2 rfl rfl) h2
  have ht := of_laid hL
  clear hA0 hval0
  simp only [List.append_nil] at hW'
  have ha : 0 ≤ a ∧ a < 65536 := by
    have := wa
    simp only [Lit.wf, IntKind.min, IntKind.max, IntKind.signed, IntKind.bits] at this
    simp at this
    omega
  obtain ⟨o, rfl⟩ := Int.eq_ofNat_of_zero_le ha.1
  refine (law_any o b c W (by omega) ht).mono fun e W' ⟨he, bel⟩ => ?_
  subst he
  exact ⟨_, rfl, _, _, _, [], _, [], hW', trodAll_mk1 (shut_bool Tryd.underlying4 _), trodAll_mk3 (shut_int Tryd.underlying22 wa) (shut_int Tryd.underlying22 wb) (shut_int Tryd.underlying22 wc), rfl, bel.frame _, fun h => by cases h⟩

theorem holds : Rows.FnNamedBySetAnswersAsLowestSaid :=
  OpenClaim.holds_of_wide 3 Tryd.f3 rfl rfl rfl rfl rfl rfl rfl ⟨rfl, rfl, rfl, rfl, rfl⟩ rfl rfl rfl rfl rfl (by kernel_rfl) Tryd.func3 (by kernel_rfl)
    (of_decide_eq_true (by kernel_rfl)) (by unfold Func.isWrapper; first | (rw [if_pos (by decide +kernel)]; kernel_rfl) | (rw [if_neg (by decide +kernel)]; exact ⟨rfl, rfl⟩))
    (fun os started H enc _ => lifted os started H enc)

theorem card : Rows.FnNamedBySetAnswersAsLowestCardSaid :=
  Claim7.holds_tied_plain_at .later [] [.data] true Rows.fnNamedBySetAnswersAsLowestCard.stood.harness false
    holds (fun _ h => by cases h) (by kernel_rfl) (fun _ h => by cases h) fnNamedBySetAnswersAsLowest_row_tie rfl ⟨rfl, rfl⟩ (by kernel_rfl) rfl
    (fun f fn hf hfn => by
      obtain rfl : f = 3 := Option.some.inj ((show Tryd.prog.funcNamed Rows.fnNamedBySetAnswersAsLowestRow.func = some 3 by kernel_rfl).symm.trans hf) |>.symm
      obtain rfl : fn = Tryd.f3 := (Option.some.inj (Tryd.func3.symm.trans hfn)).symm
      exact ⟨by kernel_rfl, fun j t ht => by
        rw [Tryd.params3] at ht
        have hm : t ∈ [22, 22, 22] := by simpa using Array.mem_of_getElem? ht
        have hall : ([22, 22, 22].all fun u => !Tryd.prog.wantsStandIn u) = true := by kernel_rfl
        exact (show Tryd.prog.wantsStandIn t = false by simpa using List.all_eq_true.1 hall t hm)⟩)
    (by kernel_rfl)
#print axioms card
end Go.Proofs.Qxb6609418aDoor.FnNamedBySetAnswersAsLowest
