/-
  Seat b6612365a: FnTxIDStringSeparatesIDsAndMatchesContribution: from the walk to the row, proved.
-/
import Derived.Test.Qxb6612365aSeparate
import Derived.Test.Qxb6612365aOpen
namespace Go.Proofs.Qxb6612365a
open Go.ChangeShapes Go.WideShapes Go.ChangeAt Go.RowKit

set_option maxRecDepth 100000 in
theorem lifted5 (os : Os) (started : os.Started) (H : Type) (enc : TypeId × Value → H) :
    ReturnsInHanded {} Try.checked os 5 .any (Rows.fnTxIDStringSeparatesIDsAndMatchesContributionSpec.pre6 enc Try.prog Try.f5 Rows.fnTxIDStringSeparatesIDsAndMatchesContributionRow.domain false) (Rows.fnTxIDStringSeparatesIDsAndMatchesContributionSpec.post enc Try.prog Try.f5 false true false false) := by
  refine returnsInHanded_of_change (C := Try.checked) own started (by kernel_rfl) Try.func5
    (ChangeSpec.witness6 (enc := enc) (C := Try.checked) false ⟨#[], #[zero32, zero32], []⟩ 8 (by kernel_rfl) (by kernel_rfl) (by kernel_rfl) (by kernel_rfl)) ?_
  intro W base args ds gs before hval0 hW _ _
  have hval : ∀ (j : Nat) t v, Try.f5.params[j]? = some t → args[j]? = some v → Value.okWide Try.prog W .any base t v := hval0
  have hW' := hW
  obtain ⟨p, q, hA0, hV, rfl, hfz, hnd⟩ := hW
  have hlt := fun z hz => hW'.lt z hz
  have hA : DataW.TrodAll enc Try.prog W 0 (fun _ => true) true Try.f5.params.toList args.toList ds p := hA0
  rw [Try.params5] at hA hval
  obtain ⟨v0, v1, d0, d1, p0, p1, rfl, rfl, rfl, h0, h1⟩ := trodAll_two hA
  obtain ⟨rfl, rfl⟩ := trodVars_none hV
  obtain ⟨x, hx, rfl⟩ := open_bytes (hval 0 22 v0 rfl rfl) h0
  obtain ⟨y, hy, rfl⟩ := open_bytes (hval 1 22 v1 rfl rfl) h1
  clear hA0 hval0
  refine (separate_any x y W hx hy).mono fun e W' ⟨he, hb⟩ => ?_
  subst he
  exact ⟨_, rfl, _, _, _, [], p0 ++ p1, [], hW', trodAll_mk1 (shut_bool Try.underlying4 _), trodAll_mk2 (bytes_later h0 hb (fun z hz => hlt z (by simp [hz]))) (bytes_later h1 hb (fun z hz => hlt z (by simp [hz]))), rfl, hb.frame _, fun h => by cases h⟩

/-- THE STATEMENT. -/
theorem proved5 : Rows.FnTxIDStringSeparatesIDsAndMatchesContributionSaid :=
  OpenClaim.holds_of_wide 5 Try.f5 rfl rfl rfl rfl rfl rfl rfl ⟨rfl, rfl, rfl, rfl, rfl⟩ rfl rfl rfl rfl rfl (by kernel_rfl) Try.func5 (by kernel_rfl)
    (of_decide_eq_true (by kernel_rfl)) (by unfold Func.isWrapper; first | (rw [if_pos (by decide +kernel)]; kernel_rfl) | (rw [if_neg (by decide +kernel)]; exact ⟨rfl, rfl⟩))
    (fun os started H enc _ => lifted5 os started H enc)

end Go.Proofs.Qxb6612365a
