/-
  The walks of seat b6612272aD: what each Go function on the road does, said of plain functions.
-/
import Derived.Test.Qxb6612272aDoorRows
import Derived.WalkKit
import Derived.WalkSpells
import Derived.WalkLawsBesides
namespace Go.Proofs.Qxb6612272aDoor
open Go.RowKit

/-- '(modeSet).has': is the bit k of s set? -/
def hasB (s k : Int) : Bool := bits BinOp.and IntKind.u8 s (2 ^ min k.toNat 8 % 256) != 0
/-- The table 'compatible'. -/
def tab : List Int := [0, 10, 0, 58, 24, 8]
/-- 'Mode.conflicts'. -/
def cflB (m k : Int) : Bool := !hasB (tab.getD m.toNat 0) k
/-- 'semCompatible', where a is at most 5. -/
def semB (a b : Int) : Bool :=
  decide (1 ≤ a) && decide (1 ≤ b) && decide (b ≤ 5) && !(a == 2 || b == 2) &&
  !((a == 1 || a == 5) && (b == 4 || b == 5)) && !((b == 1 || b == 5) && (a == 4 || a == 5))

theorem has_any (s k : Int) (w : World) (h0 : 0 ≤ k) :
    Calls Tryd.prog 13 #[.int .u8 s, .int .u8 k] w fun e w' => e = .returned (.bool (hasB s k)) ∧ w' = w := by
  go_enter Tryd.func13, Tryd.ntmps13
  go_wp2
  go_ret
  exact ⟨rfl, rfl⟩

/-- The variable's six cells. -/
def Laid6 (w : World) : Prop := ∀ i : Nat, i < 6 → w.cell? ⟨0, i, none⟩ = some (.int .u8 (tab.getD i 0))

theorem conflicts_any (m k : Int) (w : World) (hl : Laid6 w) (m0 : 0 ≤ m) (m5 : m ≤ 5) (h0 : 0 ≤ k) :
    Calls Tryd.prog 8 #[.int .u8 m, .int .u8 k] w fun e w' => e = .returned (.bool (cflB m k)) ∧ w' = w := by
  have hc := hl m.toNat (by omega)
  go_enter Tryd.func8, Tryd.ntmps8
  go_wp2_with (go_at_call 13; refine (has_any _ _ _ (by omega)).mono ?_; rintro e w' ⟨rfl, rfl⟩)
  go_ret
  exact ⟨rfl, rfl⟩

theorem zz_any (m k : Int) (w : World) (hl : Laid6 w) (m0 : 0 ≤ m) (m5 : m ≤ 5) (h0 : 0 ≤ k) :
    Calls Tryd.prog 5 #[.int .u8 m, .int .u8 k] w fun e w' => e = .returned (.bool (cflB m k)) ∧ w' = w := by
  go_enter Tryd.func5, Tryd.ntmps5
  go_wp2_with (go_at_call 8; refine (conflicts_any _ _ _ hl (by omega) (by omega) (by omega)).mono ?_; rintro e w' ⟨rfl, rfl⟩)
  go_ret
  exact ⟨rfl, rfl⟩

theorem upto5 {a : Int} (h0 : 0 ≤ a) (h5 : a ≤ 5) : a = 0 ∨ a = 1 ∨ a = 2 ∨ a = 3 ∨ a = 4 ∨ a = 5 := by omega

set_option maxHeartbeats 1000000 in
theorem sem_any (a b : Int) (w : World) (a0 : 0 ≤ a) (a5 : a ≤ 5) (b0 : 0 ≤ b) :
    Calls Tryd.prog 6 #[.int .u8 a, .int .u8 b] w fun e w' => e = .returned (.bool (semB a b)) ∧ w' = w := by
  by_cases b5 : b ≤ 5
  · rcases upto5 a0 a5 with rfl | rfl | rfl | rfl | rfl | rfl <;> rcases upto5 b0 b5 with rfl | rfl | rfl | rfl | rfl | rfl
    all_goals
      clear a0 a5 b0 b5
      go_enter Tryd.func6, Tryd.ntmps6
      go_wp2
      go_ret
      exact ⟨rfl, rfl⟩
  · have e : semB a b = false := by simp [semB]; omega
    have H : Hid (semB a b = false) := e
    clear e
    rcases upto5 a0 a5 with rfl | rfl | rfl | rfl | rfl | rfl
    all_goals
      clear a0 a5
      go_enter Tryd.func6, Tryd.ntmps6
      go_wp2
      go_ret
      exact ⟨by rw [H.out]; rfl, rfl⟩

end Go.Proofs.Qxb6612272aDoor
