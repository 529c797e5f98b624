/-
  No cell of these rows narrows 'for every input' (looked for: loops, veiled, ifaces, maps, wideKeys, modest, calm, conditions, laid).
  DERIVED. THE GIVEN ROWS OF THIS SEAT. 3 by the template 'for every input the law returns true; each argument reads behind the call as it read before'; 0 by the template 'total and deterministic' (their statements: Qxb6612365aTotals.lean).
  GIVEN WITH THE SEED: the statements are not yours to turn. If you find one false, say at which input.
  Laid BY PROGRAM, IN A SANDBOX (cutbox-rows.mjs): the forced cells as the released guide's own fill.sh prints them over the translation c74d655616af861a… (all of the seat's roots in one cut). By AI agents, Wed Nov 11 2026. No macro, syntax, notation, axiom, sorry.
-/
import Derived.Test.Qxb6612365aChecked
import GoSem.Claim
import GoSem.ClaimJoined
import GoSem.ClaimMapViews
import Derived.JoinedTies
import Derived.KernelRfl
namespace Go.Proofs.Qxb6612365a
/- THE CELL 'sum', in the pinned program and in every row, IS THE sha256 OF THE DUMP (.gsa) THAT Qxb6612365aProg.lean LOADS. Nothing in Lean hashes anything: it is a label: what it is worth is what the hold of that sum in a sandbox is worth. -/
noncomputable def Try.pinned : Pinned := { name := "qxb6612365a", sum := "c74d655616af861a85b284af6ab9ac871b5f1ba33bbcfeff3ddd15b56b714314", checked := Try.checked }
namespace Rows
def none {H : Type} : Left H := { results := [], args := [] }

/-- 'zzlaws_internal_wire_b1.FnContributionMarshalTextDecodesBack': WHATEVER THE INPUT: true; the input reads as it did. -/
def fnContributionMarshalTextDecodesBackSpec : ChangeSpec := { name := "fnContributionMarshalTextDecodesBack", fn := fun _ => fun
  | [d] => { results := [.lit (.bool true)], args := [d] }
  | _ => none }
def fnContributionMarshalTextDecodesBackRow : OpenClaim := { program := "qxb6612365a", sum := "c74d655616af861a85b284af6ab9ac871b5f1ba33bbcfeff3ddd15b56b714314", func := "example.com/concordat/concordat/zzlaws_internal_wire_b1.FnContributionMarshalTextDecodesBack", spec := "fnContributionMarshalTextDecodesBack", apart := false }
def FnContributionMarshalTextDecodesBackSaid : Prop := fnContributionMarshalTextDecodesBackRow.holds Try.pinned (OpenSpec.ofChange fnContributionMarshalTextDecodesBackSpec)

/-- ITS FALSE NEIGHBOUR: 'it returns false'. Refute it at one input. -/
def fnContributionMarshalTextDecodesBackWrong : ChangeSpec := { name := "fnContributionMarshalTextDecodesBack", fn := fun _ => fun
  | [d] => { results := [.lit (.bool false)], args := [d] }
  | _ => none }
def FnContributionMarshalTextDecodesBackWrongFalsely : Prop := fnContributionMarshalTextDecodesBackRow.holds Try.pinned (OpenSpec.ofChange fnContributionMarshalTextDecodesBackWrong)

/-- 'zzlaws_internal_wire_b1.FnContributionMarshalTextKeepsByteOrder': WHATEVER THE INPUT: true; the input reads as it did. -/
def fnContributionMarshalTextKeepsByteOrderSpec : ChangeSpec := { name := "fnContributionMarshalTextKeepsByteOrder", fn := fun _ => fun
  | [d1, d2] => { results := [.lit (.bool true)], args := [d1, d2] }
  | _ => none }
def fnContributionMarshalTextKeepsByteOrderRow : OpenClaim := { program := "qxb6612365a", sum := "c74d655616af861a85b284af6ab9ac871b5f1ba33bbcfeff3ddd15b56b714314", func := "example.com/concordat/concordat/zzlaws_internal_wire_b1.FnContributionMarshalTextKeepsByteOrder", spec := "fnContributionMarshalTextKeepsByteOrder", apart := false }
def FnContributionMarshalTextKeepsByteOrderSaid : Prop := fnContributionMarshalTextKeepsByteOrderRow.holds Try.pinned (OpenSpec.ofChange fnContributionMarshalTextKeepsByteOrderSpec)

/-- ITS FALSE NEIGHBOUR: 'it returns false'. Refute it at one input. -/
def fnContributionMarshalTextKeepsByteOrderWrong : ChangeSpec := { name := "fnContributionMarshalTextKeepsByteOrder", fn := fun _ => fun
  | [d1, d2] => { results := [.lit (.bool false)], args := [d1, d2] }
  | _ => none }
def FnContributionMarshalTextKeepsByteOrderWrongFalsely : Prop := fnContributionMarshalTextKeepsByteOrderRow.holds Try.pinned (OpenSpec.ofChange fnContributionMarshalTextKeepsByteOrderWrong)

/-- 'zzlaws_internal_wire_b1.FnTxIDStringSeparatesIDsAndMatchesContribution': WHATEVER THE INPUT: true; the input reads as it did. -/
def fnTxIDStringSeparatesIDsAndMatchesContributionSpec : ChangeSpec := { name := "fnTxIDStringSeparatesIDsAndMatchesContribution", fn := fun _ => fun
  | [d1, d2] => { results := [.lit (.bool true)], args := [d1, d2] }
  | _ => none }
def fnTxIDStringSeparatesIDsAndMatchesContributionRow : OpenClaim := { program := "qxb6612365a", sum := "c74d655616af861a85b284af6ab9ac871b5f1ba33bbcfeff3ddd15b56b714314", func := "example.com/concordat/concordat/zzlaws_internal_wire_b1.FnTxIDStringSeparatesIDsAndMatchesContribution", spec := "fnTxIDStringSeparatesIDsAndMatchesContribution", apart := false }
def FnTxIDStringSeparatesIDsAndMatchesContributionSaid : Prop := fnTxIDStringSeparatesIDsAndMatchesContributionRow.holds Try.pinned (OpenSpec.ofChange fnTxIDStringSeparatesIDsAndMatchesContributionSpec)

/-- ITS FALSE NEIGHBOUR: 'it returns false'. Refute it at one input. -/
def fnTxIDStringSeparatesIDsAndMatchesContributionWrong : ChangeSpec := { name := "fnTxIDStringSeparatesIDsAndMatchesContribution", fn := fun _ => fun
  | [d1, d2] => { results := [.lit (.bool false)], args := [d1, d2] }
  | _ => none }
def FnTxIDStringSeparatesIDsAndMatchesContributionWrongFalsely : Prop := fnTxIDStringSeparatesIDsAndMatchesContributionRow.holds Try.pinned (OpenSpec.ofChange fnTxIDStringSeparatesIDsAndMatchesContributionWrong)

end Rows
end Go.Proofs.Qxb6612365a
