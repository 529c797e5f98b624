/-
  No cell of these rows narrows 'for every input' (looked for: loops, veiled, ifaces, maps, wideKeys, modest, calm, conditions, laid).
  DERIVED. THE GIVEN ROWS OF THIS SEAT. 2 by the template 'for every input the law returns true; each argument reads behind the call as it read before'; 0 by the template 'total and deterministic' (their statements: Qxb6612332aFmtTotals.lean).
  GIVEN WITH THE SEED: the statements are not yours to turn. If you find one false, say at which input.
  Laid BY PROGRAM, IN A SANDBOX (cutbox-rows.mjs): the forced cells as the released guide's own fill.sh prints them over the translation 69face80122edf98… (all of the seat's roots in one cut). By AI agents, Wed Nov 11 2026. No macro, syntax, notation, axiom, sorry.
-/
import Derived.Test.Qxb6612332aFmtChecked
import GoSem.Claim
import GoSem.ClaimJoined
import GoSem.ClaimMapViews
import Derived.JoinedTies
import Derived.KernelRfl
namespace Go.Proofs.Qxb6612332aFmt
/- THE CELL 'sum', in the pinned program and in every row, IS THE sha256 OF THE DUMP (.gsa) THAT Qxb6612332aFmtProg.lean LOADS. Nothing in Lean hashes anything: it is a label: what it is worth is what the hold of that sum in a sandbox is worth. -/
noncomputable def Tryf.pinned : Pinned := { name := "qxb6612332afmt", sum := "69face80122edf983ce7feb5775ddea81aa33de89bb71fa960e8ab7f00447d49", checked := Tryf.checked }
namespace Rows
def none {H : Type} : Left H := { results := [], args := [] }

/-- 'zzlaws_calendar_b1.FnMonthDayStringIsZeroPaddedMonthDashDay': WHATEVER THE INPUT: true; the input reads as it did. -/
def fnMonthDayStringIsZeroPaddedMonthDashDaySpec : ChangeSpec := { name := "fnMonthDayStringIsZeroPaddedMonthDashDay", fn := fun _ => fun
  | [d1, d2] => { results := [.lit (.bool true)], args := [d1, d2] }
  | _ => none }
def fnMonthDayStringIsZeroPaddedMonthDashDayRow : OpenClaim := { program := "qxb6612332afmt", sum := "69face80122edf983ce7feb5775ddea81aa33de89bb71fa960e8ab7f00447d49", func := "example.com/tuoguan/tuoguan/zzlaws_calendar_b1.FnMonthDayStringIsZeroPaddedMonthDashDay", spec := "fnMonthDayStringIsZeroPaddedMonthDashDay", stops := ["fmt.Sprintf"], inPlace := ["fmt.Sprintf"], apart := false }
/-- NO THEOREM (fmt's text is open here; it may be false): for the released tool's asking of the row's closed facts alone. THE STATEMENT IS 'FnMonthDayStringIsZeroPaddedMonthDashDayToldSaid' (Qxb6612332aFmtCards.lean). -/
def FnMonthDayStringIsZeroPaddedMonthDashDayFormAsk : Prop := fnMonthDayStringIsZeroPaddedMonthDashDayRow.holds Tryf.pinned (OpenSpec.ofChange fnMonthDayStringIsZeroPaddedMonthDashDaySpec)

/-- ITS FALSE NEIGHBOUR: 'it returns false'. Refute it at one input. -/
def fnMonthDayStringIsZeroPaddedMonthDashDayWrong : ChangeSpec := { name := "fnMonthDayStringIsZeroPaddedMonthDashDay", fn := fun _ => fun
  | [d1, d2] => { results := [.lit (.bool false)], args := [d1, d2] }
  | _ => none }
def FnMonthDayStringIsZeroPaddedMonthDashDayWrongFormAsk : Prop := fnMonthDayStringIsZeroPaddedMonthDashDayRow.holds Tryf.pinned (OpenSpec.ofChange fnMonthDayStringIsZeroPaddedMonthDashDayWrong)

/-- 'zzlaws_calendar_b1.FnMonthDayStringSortsLikeTheYear': WHATEVER THE INPUT: true; the input reads as it did. -/
def fnMonthDayStringSortsLikeTheYearSpec : ChangeSpec := { name := "fnMonthDayStringSortsLikeTheYear", fn := fun _ => fun
  | [d1, d2, d3, d4] => { results := [.lit (.bool true)], args := [d1, d2, d3, d4] }
  | _ => none }
def fnMonthDayStringSortsLikeTheYearRow : OpenClaim := { program := "qxb6612332afmt", sum := "69face80122edf983ce7feb5775ddea81aa33de89bb71fa960e8ab7f00447d49", func := "example.com/tuoguan/tuoguan/zzlaws_calendar_b1.FnMonthDayStringSortsLikeTheYear", spec := "fnMonthDayStringSortsLikeTheYear", stops := ["fmt.Sprintf"], inPlace := ["fmt.Sprintf"], apart := false }
/-- NO THEOREM (fmt's text is open here; it may be false): for the released tool's asking of the row's closed facts alone. THE STATEMENT IS 'FnMonthDayStringSortsLikeTheYearToldSaid' (Qxb6612332aFmtCards.lean). -/
def FnMonthDayStringSortsLikeTheYearFormAsk : Prop := fnMonthDayStringSortsLikeTheYearRow.holds Tryf.pinned (OpenSpec.ofChange fnMonthDayStringSortsLikeTheYearSpec)

/-- ITS FALSE NEIGHBOUR: 'it returns false'. Refute it at one input. -/
def fnMonthDayStringSortsLikeTheYearWrong : ChangeSpec := { name := "fnMonthDayStringSortsLikeTheYear", fn := fun _ => fun
  | [d1, d2, d3, d4] => { results := [.lit (.bool false)], args := [d1, d2, d3, d4] }
  | _ => none }
def FnMonthDayStringSortsLikeTheYearWrongFormAsk : Prop := fnMonthDayStringSortsLikeTheYearRow.holds Tryf.pinned (OpenSpec.ofChange fnMonthDayStringSortsLikeTheYearWrong)

end Rows
end Go.Proofs.Qxb6612332aFmt
