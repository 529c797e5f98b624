/-
  DERIVED. GIVEN WITH THE SEED: THE CARDS: each row of Qxb6612332aFmtRows.lean that lists a variable, with what it lists TIED to the program's text (the seventh form; the later family's looks); each row that meets fmt, with fmt's text TOLD by the authors' own Lean function (tested against real Go, not proved from fmt's source: count such statements apart). THE CARD IS WHAT COUNTS. Prove the row's statement (the work); the ties are given (Qxb6612332aFmtTie.lean); close each card by the builder's one call (the guide's Derived/Test/ToyasCard.lean, 'card_holds'). Laid BY PROGRAM, IN A SANDBOX (cutbox-door.mjs). By AI agents, Wed Nov 11 2026. No macro, syntax, notation, axiom, sorry.
-/
import Derived.Test.Qxb6612332aFmtRows
import GoSem.ClaimSeven
namespace Go.Proofs.Qxb6612332aFmt
namespace Rows

/-- THE TOLD CARD OF 'zzlaws_calendar_b1.FnMonthDayStringIsZeroPaddedMonthDashDay'. -/
def fnMonthDayStringIsZeroPaddedMonthDashDayCard : Claim7 := { stood := { row := fnMonthDayStringIsZeroPaddedMonthDashDayRow, standIns := [], harness := (true, "ae4a1dc631690fb3571fe6f41ec282fefa9a2e9278e81017e5406a3fe692ef62"), looks := false }, told := true, goes := false }
def FnMonthDayStringIsZeroPaddedMonthDashDayToldSaid : Prop := Claim7.holds Tryf.pinned (.plain (OpenSpec.ofChange fnMonthDayStringIsZeroPaddedMonthDashDaySpec)) fnMonthDayStringIsZeroPaddedMonthDashDayCard
/-- ITS FALSE NEIGHBOUR. Refute it at one input. -/
def FnMonthDayStringIsZeroPaddedMonthDashDayToldWrongFalsely : Prop := Claim7.holds Tryf.pinned (.plain (OpenSpec.ofChange fnMonthDayStringIsZeroPaddedMonthDashDayWrong)) fnMonthDayStringIsZeroPaddedMonthDashDayCard

/-- THE TOLD CARD OF 'zzlaws_calendar_b1.FnMonthDayStringSortsLikeTheYear'. -/
def fnMonthDayStringSortsLikeTheYearCard : Claim7 := { stood := { row := fnMonthDayStringSortsLikeTheYearRow, standIns := [], harness := (true, "ae4a1dc631690fb3571fe6f41ec282fefa9a2e9278e81017e5406a3fe692ef62"), looks := false }, told := true, goes := false }
def FnMonthDayStringSortsLikeTheYearToldSaid : Prop := Claim7.holds Tryf.pinned (.plain (OpenSpec.ofChange fnMonthDayStringSortsLikeTheYearSpec)) fnMonthDayStringSortsLikeTheYearCard
/-- ITS FALSE NEIGHBOUR. Refute it at one input. -/
def FnMonthDayStringSortsLikeTheYearToldWrongFalsely : Prop := Claim7.holds Tryf.pinned (.plain (OpenSpec.ofChange fnMonthDayStringSortsLikeTheYearWrong)) fnMonthDayStringSortsLikeTheYearCard
end Rows
end Go.Proofs.Qxb6612332aFmt
