/-
  Seat b6612332aF: the closed facts for a walk over fmt's stopped front at this dump's one format, and what fmt's text is there.
-/
import Derived.Test.Qxb6612332aFmtRows
import Derived.Stop.CallBack
import Derived.Stop.IfaceNil
import Derived.Stop.FmtTextWidths
import Derived.Stop.FmtTextKit
import Derived.Stop.Texts
import Derived.Stop.JoinedTold
import Derived.ProofKit
import Derived.RowKit
import GoSem.ClaimData
namespace Go.Proofs.Qxb6612332aFmt
open Go.Extern.Stop Go.Stop Go.Extern Go.Kit

@[go_sem] theorem call10 (args : Array Value) (w : World) : (callFunc 10 args).run Tryf.prog w = ((FmtStop.sprintf #[9, 48] #[9] args).run Tryf.prog w).andThen fun v w' => .ok (.value v) w' :=
  run_callFunc_extern Tryf.func10 (by kernel_rfl) (by kernel_rfl) (by kernel_rfl) (by kernel_rfl) args w
@[go_sem] theorem guardF (name : String) (w : World) : (FmtStop.guard name).run Tryf.prog w = .ok () w := by kernel_rfl
/-- The format: two digits at least, a dash, two digits at least. -/
def form : List UInt8 := [37, 48, 50, 100, 45, 37, 48, 50, 100]
@[go_sem] theorem fmt2 : FmtStop.printed? ⟨#[37, 48, 50, 100, 45, 37, 48, 50, 100]⟩ 2 = some [(0, 100, false), (1, 100, false)] := by kernel_rfl
@[go_sem] theorem fmt2r (w : World) : (FmtDoors.printed ⟨#[37, 48, 50, 100, 45, 37, 48, 50, 100]⟩ 2).run Tryf.prog w = .ok [(0, 100, false), (1, 100, false)] w := by kernel_rfl
def shape3 : List UInt8 := [5, 3, 0, 0, 0, 0, 0, 0, 0, 105, 110, 116]
@[go_sem] theorem op3_100 (name : String) (x : Int) (w : World) : (FmtStop.operand name false 100 false (.iface 3 (.int .i64 x))).run Tryf.prog w = .ok (shape3, Go.Extern.Stop.digits 8 (x % 2 ^ 64).toNat) w := by kernel_rfl

/-- What fmt is asked. -/
def reading (m d : Int) : List (List UInt8) := [form, shape3, digits 8 (m % 18446744073709551616).toNat, shape3, digits 8 (d % 18446744073709551616).toNat]
def tText (m d : Int) : List UInt8 := FmtText.zeros 2 m ++ [45] ++ FmtText.zeros 2 d
theorem t_parse : (FmtText.parse [37, 48, 50, 100, 45, 37, 48, 50, 100]).map FmtText.glue = some [.verb { widPresent := true, wid := 2, zero := true } 100, .lit [45], .verb { widPresent := true, wid := 2, zero := true } 100] := by rfl
theorem t_text (m d : Int) (wm : (Lit.int .i64 m).wf = true) (wd : (Lit.int .i64 d).wf = true) : FmtText.text "fmt.Sprintf" (reading m d) = some (tText m d) := by
  have hm := FmtText.operand_int_at (sh := shape3) (k := .i64) rfl rfl m wm
  have hd := FmtText.operand_int_at (sh := shape3) (k := .i64) rfl rfl d wd
  rw [reading, form, FmtText.text_sprintf_glued t_parse (FmtText.operands_cons hm (FmtText.operands_cons hd FmtText.operands_nil))]
  simp [FmtText.render, FmtText.printArg_d_zero _ 2 _ wm, FmtText.printArg_d_zero _ 2 _ wd, tText]

/-- Two digits. -/
def two (n : Int) : List UInt8 := [UInt8.ofNat (48 + n.toNat / 10), UInt8.ofNat (48 + n.toNat % 10)]
theorem zeros_two_fin : ∀ n : Fin 100, FmtText.zeros 2 (n.val : Int) = two (n.val : Int) := by decide +kernel
theorem zeros_two {n : Int} (h0 : 0 ≤ n) (h1 : n ≤ 99) : FmtText.zeros 2 n = two n := by
  have h := zeros_two_fin ⟨n.toNat, by omega⟩
  simpa only [Int.toNat_of_nonneg h0] using h
def md (m d : Int) : List UInt8 := two m ++ [45] ++ two d
theorem wf_small {n : Int} (h0 : 0 ≤ n) (h1 : n ≤ 99) : (Lit.int .i64 n).wf = true := by
  simp [Lit.wf, IntKind.min, IntKind.max, IntKind.signed, IntKind.bits]; omega
theorem told_md (F : Interp) {m d : Int} (m0 : 0 ≤ m) (m1 : m ≤ 99) (d0 : 0 ≤ d) (d1 : d ≤ 99) :
    (FmtStop.textOf (F.told "fmt.Sprintf" (reading m d) 0)).data.toList = md m d := by
  rw [textOf_list, told_string F (t_text m d (wf_small m0 m1) (wf_small d0 d1)) (by simp [tText, zeros_two m0 m1, zeros_two d0 d1, two])]
  simp [tText, zeros_two m0 m1, zeros_two d0 d1, md]
end Go.Proofs.Qxb6612332aFmt
