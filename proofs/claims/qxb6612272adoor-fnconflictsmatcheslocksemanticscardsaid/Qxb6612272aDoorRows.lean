/-
  NARROWER THAN 'FOR EVERY INPUT', by the rows' own cells (each row's printed sentence says how): FnConflictsMatchesLockSemantics: laid · FnConflictsCountAndSymmetry: laid.
  DERIVED. THE GIVEN ROWS OF THIS SEAT. 2 by the template 'for every input the law returns true; each argument reads behind the call as it read before'; 0 by the template 'total and deterministic' (their statements: Qxb6612272aDoorTotals.lean).
  GIVEN WITH THE SEED: the statements are not yours to turn. If you find one false, say at which input.
  Laid BY PROGRAM, IN A SANDBOX (cutbox-rows.mjs): the forced cells as the released guide's own fill.sh prints them over the translation 822ad28dedc850b3… (all of the seat's roots in one cut). By AI agents, Wed Nov 11 2026. No macro, syntax, notation, axiom, sorry.
-/
import Derived.Test.Qxb6612272aDoorChecked
import GoSem.Claim
import GoSem.ClaimJoined
import GoSem.ClaimMapViews
import Derived.JoinedTies
import Derived.KernelRfl
namespace Go.Proofs.Qxb6612272aDoor
/- THE CELL 'sum', in the pinned program and in every row, IS THE sha256 OF THE DUMP (.gsa) THAT Qxb6612272aDoorProg.lean LOADS. Nothing in Lean hashes anything: it is a label: what it is worth is what the hold of that sum in a sandbox is worth. -/
noncomputable def Tryd.pinned : Pinned := { name := "qxb6612272adoor", sum := "822ad28dedc850b3d5dd929a1894e0b6c9ff19a4f7810ef951b82fd10a894a44", checked := Tryd.checked }
namespace Rows
def none {H : Type} : Left H := { results := [], args := [] }

/- WHAT THE LISTED PACKAGE-LEVEL VARIABLES READ AS WHEN THE CALL BEGINS. Each datum BY PROGRAM (the guide's laid-datum.mjs) off the statement by which the dump's own 'gosem.cut.vars' lays the variable. In a bare row this is a premise. The card (Qxb6612272aDoorCards.lean) ties it to the program's text. -/
def laid_example_com_phasegate_phasegate_internal_lock_compatible {H : Type} : DataW H := .agg [.lit (.int .u8 0), .lit (.int .u8 10), .lit (.int .u8 0), .lit (.int .u8 58), .lit (.int .u8 24), .lit (.int .u8 8)]

/-- 'zzlaws_internal_lock_b1.FnConflictsMatchesLockSemantics': WHATEVER THE INPUT: true; the input reads as it did. -/
def fnConflictsMatchesLockSemanticsSpec : ChangeSpec := { name := "fnConflictsMatchesLockSemantics", vars := ["example.com/phasegate/phasegate/internal/lock.compatible"], fn := fun _ => fun
  | [d1, d2, g1] => { results := [.lit (.bool true)], args := [d1, d2], vars := [g1] }
  | _ => none }
def fnConflictsMatchesLockSemanticsRow : OpenClaim := { program := "qxb6612272adoor", sum := "822ad28dedc850b3d5dd929a1894e0b6c9ff19a4f7810ef951b82fd10a894a44", func := "example.com/phasegate/phasegate/zzlaws_internal_lock_b1.FnConflictsMatchesLockSemantics", spec := "fnConflictsMatchesLockSemantics", named := ["example.com/phasegate/phasegate/internal/lock.compatible"], apart := false, laid := [("example.com/phasegate/phasegate/internal/lock.compatible", laid_example_com_phasegate_phasegate_internal_lock_compatible)] }
def FnConflictsMatchesLockSemanticsSaid : Prop := fnConflictsMatchesLockSemanticsRow.holds Tryd.pinned (OpenSpec.ofChange fnConflictsMatchesLockSemanticsSpec)

/-- ITS FALSE NEIGHBOUR: 'it returns false'. Refute it at one input. -/
def fnConflictsMatchesLockSemanticsWrong : ChangeSpec := { name := "fnConflictsMatchesLockSemantics", vars := ["example.com/phasegate/phasegate/internal/lock.compatible"], fn := fun _ => fun
  | [d1, d2, g1] => { results := [.lit (.bool false)], args := [d1, d2], vars := [g1] }
  | _ => none }
def FnConflictsMatchesLockSemanticsWrongFalsely : Prop := fnConflictsMatchesLockSemanticsRow.holds Tryd.pinned (OpenSpec.ofChange fnConflictsMatchesLockSemanticsWrong)

/-- 'zzlaws_internal_lock_b1.FnConflictsCountAndSymmetry': WHATEVER THE INPUT: true; the input reads as it did. -/
def fnConflictsCountAndSymmetrySpec : ChangeSpec := { name := "fnConflictsCountAndSymmetry", vars := ["example.com/phasegate/phasegate/internal/lock.compatible"], fn := fun _ => fun
  | [d1, d2, g1] => { results := [.lit (.bool true)], args := [d1, d2], vars := [g1] }
  | _ => none }
def fnConflictsCountAndSymmetryRow : OpenClaim := { program := "qxb6612272adoor", sum := "822ad28dedc850b3d5dd929a1894e0b6c9ff19a4f7810ef951b82fd10a894a44", func := "example.com/phasegate/phasegate/zzlaws_internal_lock_b1.FnConflictsCountAndSymmetry", spec := "fnConflictsCountAndSymmetry", named := ["example.com/phasegate/phasegate/internal/lock.compatible"], apart := false, laid := [("example.com/phasegate/phasegate/internal/lock.compatible", laid_example_com_phasegate_phasegate_internal_lock_compatible)] }
def FnConflictsCountAndSymmetrySaid : Prop := fnConflictsCountAndSymmetryRow.holds Tryd.pinned (OpenSpec.ofChange fnConflictsCountAndSymmetrySpec)

/-- ITS FALSE NEIGHBOUR: 'it returns false'. Refute it at one input. -/
def fnConflictsCountAndSymmetryWrong : ChangeSpec := { name := "fnConflictsCountAndSymmetry", vars := ["example.com/phasegate/phasegate/internal/lock.compatible"], fn := fun _ => fun
  | [d1, d2, g1] => { results := [.lit (.bool false)], args := [d1, d2], vars := [g1] }
  | _ => none }
def FnConflictsCountAndSymmetryWrongFalsely : Prop := fnConflictsCountAndSymmetryRow.holds Tryd.pinned (OpenSpec.ofChange fnConflictsCountAndSymmetryWrong)

end Rows
end Go.Proofs.Qxb6612272aDoor
