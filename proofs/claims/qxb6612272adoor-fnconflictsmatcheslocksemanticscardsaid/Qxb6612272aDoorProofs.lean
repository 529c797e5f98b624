/-
  Seat b6612272aD: from the walks to the two rows: the condition 'laid' is opened (Lib.tabIs_of_head), the witness starts in the heap that the door's own run leaves.
-/
import Derived.Test.Qxb6612272aDoorLaws
import Derived.ProofKit
import Derived.LaidMore
import Derived.OpenShut
import Derived.OpenVars
import Derived.Stop.Joined
import Derived.Lib.LaidTab
namespace Go.Proofs.Qxb6612272aDoor
open Go.ChangeShapes Go.WideShapes Go.ChangeAt Go.RowKit

theorem own : ownKnob Tryd.prog.godebug = none := by kernel_rfl
theorem laidOut : laidOutB Tryd.prog = true := by kernel_rfl
/-- The listed variable's name. -/
def vname : String := Rows.fnConflictsMatchesLockSemanticsSpec.vars.headD ""
theorem gCompat : Tryd.prog.globalNamed vname = some 0 := by kernel_rfl
theorem tCompat : (Tryd.prog.globals[0]?).map (·.type) = some 28 := by kernel_rfl
theorem cells28 : Tryd.prog.cellsOf 28 = 6 := by kernel_rfl
theorem cells27 : Tryd.prog.cellsOf 27 = 1 := by kernel_rfl
def laid1 : List (String × DataW Unit) := [(vname, Lib.tabData .u8 tab)]

/-- The door's own heap meets the condition. -/
theorem door_met (os : Os) (args : Array Value) : laidMetH Tryd.prog laid1 ((World.doorLaid Tryd.prog 400 os).forCall (fun _ _ => 0) ⟨#[], args, []⟩).memory :=
  laidMetH_of_parts3 (fuel := 8) (laidMet_of_run' 8 (by kernel_rfl) (by kernel_rfl)) (by kernel_rfl) (by kernel_rfl)

/-- What the condition gives the walks: the six cells. -/
theorem of_laid {W : World} (h : laidMetH Tryd.prog laid1 W) : Laid6 W := by
  rw [MakeChecks.laidMetH_plain _ _ _ (by kernel_rfl)] at h
  have hT := Lib.tabIs_of_head gCompat tCompat Tryd.underlying28 Tryd.underlying27 cells27 cells28 h
  intro i hi
  exact hT.cell gCompat i hi

theorem u8_bd {n : Int} (h : (Lit.int .u8 n).wf = true) : 0 ≤ n ∧ n ≤ 255 := by
  have := bounds_u8 h
  omega

set_option maxRecDepth 100000 in
theorem lifted3 (os : Os) (started : os.Started) (H : Type) (enc : TypeId × Value → H) :
    ReturnsInHanded {} Tryd.checked os 3 .any (fun w args => (Rows.fnConflictsMatchesLockSemanticsSpec.pre enc Tryd.prog Tryd.f3 [] false w args ∧ laidMetH Tryd.prog laid1 w) ∧ sizedMet enc Tryd.prog Tryd.f3 (OpenSpec.ofChange Rows.fnConflictsMatchesLockSemanticsSpec) false w args)
      (Rows.fnConflictsMatchesLockSemanticsSpec.post enc Tryd.prog Tryd.f3 false true false false) := by
  refine returnsInHanded_of_change_and (C := Tryd.checked) (X := fun w _ => laidMetH Tryd.prog laid1 w) (fun _ _ _ hh h => h.of_heap hh) own started (by kernel_rfl) Tryd.func3
    (ChangeSpec.witness_shaped (enc := enc) (C := Tryd.checked) (os := os) (X := fun w _ => laidMetH Tryd.prog laid1 w) false (World.doorLaid Tryd.prog 400 os) #[.int .u8 0, .int .u8 0] 8 rfl (World.shaped_of_RefB (by kernel_rfl) (by kernel_rfl)) (by kernel_rfl) (by kernel_rfl) (by kernel_rfl) (door_met os _)) ?_
  intro W base args ds gs before hval0 hW _ _ hL _
  have hval : ∀ (j : Nat) t v, Tryd.f3.params[j]? = some t → args[j]? = some v → Value.okWide Tryd.prog W .any base t v := hval0
  have hW' := hW
  obtain ⟨p, q, hA0, hV0, rfl, hfz, hnd⟩ := hW
  have hV : DataW.TrodVars enc Tryd.prog W (fun _ => true) Rows.fnConflictsMatchesLockSemanticsSpec.vars gs q := hV0
  have hA : DataW.TrodAll enc Tryd.prog W 0 (fun _ => true) true Tryd.f3.params.toList args.toList ds p := hA0
  rw [Tryd.params3] at hA hval
  obtain ⟨v0, v1, d0, d1, p0, p1, rfl, rfl, rfl, h0, h1⟩ := trodAll_two hA
  obtain ⟨a, rfl, rfl, rfl, wa⟩ := open_int Tryd.underlying5 (hval 0 5 v0 rfl rfl) h0
  obtain ⟨b, rfl, rfl, rfl, wb⟩ := open_int Tryd.underlying5 (hval 1 5 v1 rfl rfl) h1
  have hV2 := (Below.refl W.heap.size W).trodVars laidOut (by kernel_rfl) hV
  obtain ⟨g, t, cs, fuel, dg, pg, rfl, _⟩ := trodVars_one hV
  have ba := u8_bd wa
  have bb := u8_bd wb
  clear hA0 hV0 hval0
  refine (matches_any a b W (of_laid hL) ba.1 bb.1 bb.2).mono fun e W' ⟨he, hw⟩ => ?_
  subst he; subst hw
  exact ⟨_, rfl, _, _, _, [], [] ++ [], q, hW', trodAll_mk1 (shut_bool Tryd.underlying4 _), trodAll_mk2 (shut_int Tryd.underlying5 wa) (shut_int Tryd.underlying5 wb), hV2, World.keptBut_refl _ _, fun h => by cases h⟩

theorem row3 : Rows.FnConflictsMatchesLockSemanticsSaid :=
  OpenClaim.holds_of_wide 3 Tryd.f3 rfl rfl rfl rfl rfl rfl rfl ⟨rfl, rfl, rfl, rfl, rfl⟩ rfl rfl rfl rfl rfl (by kernel_rfl) Tryd.func3 (by kernel_rfl)
    (of_decide_eq_true (by kernel_rfl)) (by unfold Func.isWrapper; first | (rw [if_pos (by decide +kernel)]; kernel_rfl) | (rw [if_neg (by decide +kernel)]; exact ⟨rfl, rfl⟩))
    (fun os started H enc _ => lifted3 os started H enc)

set_option maxRecDepth 100000 in
theorem lifted4 (os : Os) (started : os.Started) (H : Type) (enc : TypeId × Value → H) :
    ReturnsInHanded {} Tryd.checked os 4 .any (fun w args => (Rows.fnConflictsCountAndSymmetrySpec.pre enc Tryd.prog Tryd.f4 [] false w args ∧ laidMetH Tryd.prog laid1 w) ∧ sizedMet enc Tryd.prog Tryd.f4 (OpenSpec.ofChange Rows.fnConflictsCountAndSymmetrySpec) false w args)
      (Rows.fnConflictsCountAndSymmetrySpec.post enc Tryd.prog Tryd.f4 false true false false) := by
  refine returnsInHanded_of_change_and (C := Tryd.checked) (X := fun w _ => laidMetH Tryd.prog laid1 w) (fun _ _ _ hh h => h.of_heap hh) own started (by kernel_rfl) Tryd.func4
    (ChangeSpec.witness_shaped (enc := enc) (C := Tryd.checked) (os := os) (X := fun w _ => laidMetH Tryd.prog laid1 w) false (World.doorLaid Tryd.prog 400 os) #[.int .u8 0, .int .u8 0] 8 rfl (World.shaped_of_RefB (by kernel_rfl) (by kernel_rfl)) (by kernel_rfl) (by kernel_rfl) (by kernel_rfl) (door_met os _)) ?_
  intro W base args ds gs before hval0 hW _ _ hL _
  have hval : ∀ (j : Nat) t v, Tryd.f4.params[j]? = some t → args[j]? = some v → Value.okWide Tryd.prog W .any base t v := hval0
  have hW' := hW
  obtain ⟨p, q, hA0, hV0, rfl, hfz, hnd⟩ := hW
  have hV : DataW.TrodVars enc Tryd.prog W (fun _ => true) Rows.fnConflictsCountAndSymmetrySpec.vars gs q := hV0
  have hA : DataW.TrodAll enc Tryd.prog W 0 (fun _ => true) true Tryd.f4.params.toList args.toList ds p := hA0
  rw [Tryd.params4] at hA hval
  obtain ⟨v0, v1, d0, d1, p0, p1, rfl, rfl, rfl, h0, h1⟩ := trodAll_two hA
  obtain ⟨a, rfl, rfl, rfl, wa⟩ := open_int Tryd.underlying5 (hval 0 5 v0 rfl rfl) h0
  obtain ⟨b, rfl, rfl, rfl, wb⟩ := open_int Tryd.underlying5 (hval 1 5 v1 rfl rfl) h1
  have hV2 := (Below.refl W.heap.size W).trodVars laidOut (by kernel_rfl) hV
  obtain ⟨g, t, cs, fuel, dg, pg, rfl, _⟩ := trodVars_one hV
  have ba := u8_bd wa
  have bb := u8_bd wb
  clear hA0 hV0 hval0
  refine (count_any a b W (of_laid hL) ba.1 bb.1).mono fun e W' ⟨he, hw⟩ => ?_
  subst he; subst hw
  exact ⟨_, rfl, _, _, _, [], [] ++ [], q, hW', trodAll_mk1 (shut_bool Tryd.underlying4 _), trodAll_mk2 (shut_int Tryd.underlying5 wa) (shut_int Tryd.underlying5 wb), hV2, World.keptBut_refl _ _, fun h => by cases h⟩

theorem row4 : Rows.FnConflictsCountAndSymmetrySaid :=
  OpenClaim.holds_of_wide 4 Tryd.f4 rfl rfl rfl rfl rfl rfl rfl ⟨rfl, rfl, rfl, rfl, rfl⟩ rfl rfl rfl rfl rfl (by kernel_rfl) Tryd.func4 (by kernel_rfl)
    (of_decide_eq_true (by kernel_rfl)) (by unfold Func.isWrapper; first | (rw [if_pos (by decide +kernel)]; kernel_rfl) | (rw [if_neg (by decide +kernel)]; exact ⟨rfl, rfl⟩))
    (fun os started H enc _ => lifted4 os started H enc)

end Go.Proofs.Qxb6612272aDoor
