/-
  Seat b6612332aF: the told card of FnMonthDayStringIsZeroPaddedMonthDashDay, closed by the builder's one call.
-/
import Derived.Test.Qxb6612332aFmtProofs
import Derived.Test.Qxb6612332aFmtCards
import Derived.SevenToldRow
namespace Go.Proofs.Qxb6612332aFmt
open Go.Extern.Stop Go.Stop Go.Extern

/-- THE STATEMENT: the told card. -/
theorem card3 : Rows.FnMonthDayStringIsZeroPaddedMonthDashDayToldSaid :=
  Claim7.holds_of_told_any 3 Tryf.f3 "fmt.Sprintf" [] [] _ _ _ (by kernel_rfl) rfl rfl rfl laidOut (by kernel_rfl) rfl ⟨rfl, rfl, rfl, rfl, rfl, rfl, rfl⟩ rfl rfl (by kernel_rfl) (by kernel_rfl) Tryf.func3 (by kernel_rfl)
    (of_decide_eq_true (by kernel_rfl)) (of_decide_eq_true (by kernel_rfl)) stops.symm rfl stopKnobs.symm (by kernel_rfl)
    (by kernel_rfl) (by kernel_rfl) (by kernel_rfl) (by kernel_rfl) (by kernel_rfl) (by kernel_rfl) (by kernel_rfl) (by kernel_rfl) (by kernel_rfl) rfl (by kernel_rfl) rfl rfl
    rfl rfl
    rfl (by kernel_rfl) (by kernel_rfl) (by kernel_rfl) (by decide) (by kernel_rfl)
    (OpenClaim.moreEntering_of (by kernel_rfl) (by kernel_rfl) (by kernel_rfl) (by kernel_rfl) (by kernel_rfl) (by kernel_rfl) (by kernel_rfl) (by kernel_rfl) (by kernel_rfl) (by kernel_rfl))
    ⟨_, WideRow.started_initial, quiet _⟩
    (fun os started _ H enc _ => lifted3 os started H enc)

end Go.Proofs.Qxb6612332aFmt
