/-
  Seat b6612272aD: the tied card of FnConflictsCountAndSymmetry, closed by the builder's one call.
-/
import Derived.Test.Qxb6612272aDoorProofs
import Derived.Test.Qxb6612272aDoorTie
import Derived.Test.Qxb6612272aDoorCards
import Derived.SevenTiedAt
namespace Go.Proofs.Qxb6612272aDoor
open Go

/-- THE STATEMENT: the tied card. -/
theorem card4 : Rows.FnConflictsCountAndSymmetryCardSaid :=
  Claim7.holds_tied_plain_at .later [] [.called] true (true, "bc4b6953fa185f3f8845871aa1fa05435502a91b5c221ec42e66787309e117d8") false
    row4 (fun _ h => by cases h) (by kernel_rfl) (fun _ h => by cases h) fnConflictsCountAndSymmetry_row_tie rfl ⟨rfl, rfl⟩ (by kernel_rfl) rfl
    (fun f fn hf hfn => by
      obtain rfl : f = 4 := Option.some.inj ((show Tryd.prog.funcNamed Rows.fnConflictsCountAndSymmetryRow.func = some 4 by kernel_rfl).symm.trans hf) |>.symm
      obtain rfl : fn = Tryd.f4 := (Option.some.inj (Tryd.func4.symm.trans hfn)).symm
      exact ⟨by kernel_rfl, fun j t ht => by
        rw [Tryd.params4] at ht
        have hm : t ∈ [5, 5] := by simpa using Array.mem_of_getElem? ht
        have hall : ([5, 5].all fun u => !Tryd.prog.wantsStandIn u) = true := by kernel_rfl
        exact (show Tryd.prog.wantsStandIn t = false by simpa using List.all_eq_true.1 hall t hm)⟩)
    (by kernel_rfl)

end Go.Proofs.Qxb6612272aDoor
