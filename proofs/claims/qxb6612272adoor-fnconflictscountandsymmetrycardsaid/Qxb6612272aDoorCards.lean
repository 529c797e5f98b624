/-
  DERIVED. GIVEN WITH THE SEED: THE CARDS: each row of Qxb6612272aDoorRows.lean that lists a variable, with what it lists TIED to the program's text (the seventh form; the later family's looks); each row that meets fmt, with fmt's text TOLD by the authors' own Lean function (tested against real Go, not proved from fmt's source: count such statements apart). THE CARD IS WHAT COUNTS. Prove the row's statement (the work); the ties are given (Qxb6612272aDoorTie.lean); close each card by the builder's one call (the guide's Derived/Test/ToyasCard.lean, 'card_holds'). Laid BY PROGRAM, IN A SANDBOX (cutbox-door.mjs). By AI agents, Wed Nov 11 2026. No macro, syntax, notation, axiom, sorry.
-/
import Derived.Test.Qxb6612272aDoorRows
import GoSem.ClaimSeven
namespace Go.Proofs.Qxb6612272aDoor
namespace Rows

/-- THE TIED CARD OF 'zzlaws_internal_lock_b1.FnConflictsMatchesLockSemantics'. -/
def fnConflictsMatchesLockSemanticsCard : Claim7 := { stood := { row := fnConflictsMatchesLockSemanticsRow, standIns := [], harness := (true, "bc4b6953fa185f3f8845871aa1fa05435502a91b5c221ec42e66787309e117d8"), looks := false }, kinds := [], alts := [], laidByText := true, laidKinds := [.called], laidTests := true, laidLooks := .later }
def FnConflictsMatchesLockSemanticsCardSaid : Prop := Claim7.holds Tryd.pinned (.plain (OpenSpec.ofChange fnConflictsMatchesLockSemanticsSpec)) fnConflictsMatchesLockSemanticsCard

/-- THE TIED CARD OF 'zzlaws_internal_lock_b1.FnConflictsCountAndSymmetry'. -/
def fnConflictsCountAndSymmetryCard : Claim7 := { stood := { row := fnConflictsCountAndSymmetryRow, standIns := [], harness := (true, "bc4b6953fa185f3f8845871aa1fa05435502a91b5c221ec42e66787309e117d8"), looks := false }, kinds := [], alts := [], laidByText := true, laidKinds := [.called], laidTests := true, laidLooks := .later }
def FnConflictsCountAndSymmetryCardSaid : Prop := Claim7.holds Tryd.pinned (.plain (OpenSpec.ofChange fnConflictsCountAndSymmetrySpec)) fnConflictsCountAndSymmetryCard
end Rows
end Go.Proofs.Qxb6612272aDoor
