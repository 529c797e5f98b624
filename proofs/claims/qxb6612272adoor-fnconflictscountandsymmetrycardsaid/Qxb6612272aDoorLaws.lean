/-
  The two laws of seat b6612272aD, walked: each returns true and the world stands.
-/
import Derived.Test.Qxb6612272aDoorWalks
namespace Go.Proofs.Qxb6612272aDoor
open Go.RowKit

/-! ### The plain laws: no Go in sight -/
theorem agree_fin : ∀ m : Fin 6, ∀ k : Fin 256, (cflB (m.val : Int) (k.val : Int) == !semB (m.val : Int) (k.val : Int)) = true := by decide +kernel
theorem agree {m k : Int} (m0 : 0 ≤ m) (m5 : m ≤ 5) (k0 : 0 ≤ k) (k1 : k ≤ 255) : (cflB m k == !semB m k) = true := by
  have h := agree_fin ⟨m.toNat, by omega⟩ ⟨k.toNat, by omega⟩
  simpa only [Int.toNat_of_nonneg m0, Int.toNat_of_nonneg k0] using h
/-- How many of the modes 1 .. j conflict with m. -/
def cnt (m : Int) : Nat → Int
  | 0 => 0
  | j + 1 => cnt m j + if cflB m ((j : Int) + 1) then 1 else 0
/-- 'wantConflictCount', where m is at most 5. -/
def wantI (m : Int) : Int := if m = 3 then 1 else if m = 4 then 3 else if m = 1 then 3 else if m = 5 then 4 else 5
theorem cnt_bd (m : Int) (j : Nat) : 0 ≤ cnt m j ∧ cnt m j ≤ j := by
  induction j with
  | zero => simp [cnt]
  | succ j ih => unfold cnt; split <;> omega
theorem cfl_cnt_fin : ∀ m : Fin 6, (cnt (m.val : Int) 5 == wantI (m.val : Int)) = true := by decide +kernel
theorem cfl_cnt {m : Int} (m0 : 0 ≤ m) (m5 : m ≤ 5) : (cnt m 5 == wantI m) = true := by
  have h := cfl_cnt_fin ⟨m.toNat, by omega⟩
  simpa only [Int.toNat_of_nonneg m0] using h
theorem cfl_comm_fin : ∀ m : Fin 6, ∀ k : Fin 6, (cflB (m.val : Int) (k.val : Int) == cflB (k.val : Int) (m.val : Int)) = true := by decide +kernel
theorem cfl_comm {m k : Int} (m0 : 0 ≤ m) (m5 : m ≤ 5) (k0 : 0 ≤ k) (k1 : k ≤ 5) : (cflB m k == cflB k m) = true := by
  have h := cfl_comm_fin ⟨m.toNat, by omega⟩ ⟨k.toNat, by omega⟩
  simpa only [Int.toNat_of_nonneg m0, Int.toNat_of_nonneg k0] using h

/-! ### The walks -/
set_option maxHeartbeats 1000000 in
theorem want_any (m : Int) (w : World) (m0 : 0 ≤ m) (m5 : m ≤ 5) :
    Calls Tryd.prog 7 #[.int .u8 m] w fun e w' => e = .returned (.int .i64 (wantI m)) ∧ w' = w := by
  rcases upto5 m0 m5 with rfl | rfl | rfl | rfl | rfl | rfl
  all_goals
    clear m0 m5
    go_enter Tryd.func7, Tryd.ntmps7
    go_wp2
    go_ret
    exact ⟨rfl, rfl⟩

set_option maxHeartbeats 400000 in
theorem matches_any (m o : Int) (w : World) (hl : Laid6 w) (m0 : 0 ≤ m) (o0 : 0 ≤ o) (o1 : o ≤ 255) :
    Calls Tryd.prog 3 #[.int .u8 m, .int .u8 o] w fun e w' => e = .returned (.bool true) ∧ w' = w := by
  by_cases m5 : m ≤ 5
  · have H : Hid ((cflB m o == !semB m o) = true) := agree m0 m5 o0 o1
    go_enter Tryd.func3, Tryd.ntmps3
    go_wp2_with (first | (go_at_call 5; refine (zz_any _ _ _ hl (by omega) (by omega) (by omega)).mono ?_; rintro e w' ⟨rfl, rfl⟩) | (go_at_call 6; refine (sem_any _ _ _ (by omega) (by omega) (by omega)).mono ?_; rintro e w' ⟨rfl, rfl⟩))
    go_ret
    exact ⟨congrArg (fun b => Ending.returned (.bool b)) H.out, rfl⟩
  · go_enter Tryd.func3, Tryd.ntmps3
    go_wp2
    go_ret
    exact ⟨rfl, rfl⟩

set_option maxHeartbeats 400000 in
theorem count_any (m o : Int) (w : World) (hl : Laid6 w) (m0 : 0 ≤ m) (o0 : 0 ≤ o) :
    Calls Tryd.prog 4 #[.int .u8 m, .int .u8 o] w fun e w' => e = .returned (.bool true) ∧ w' = w := by
  by_cases m5 : m ≤ 5
  · by_cases o5 : o ≤ 5
    · have HC : Hid ((cnt m 5 == wantI m) = true) := cfl_cnt m0 m5
      have HS : Hid ((cflB m o == cflB o m) = true) := cfl_comm m0 m5 o0 o5
      go_enter Tryd.func4, Tryd.ntmps4
      go_wp2
      go_loop [5, 6] (fun n k => ∃ j : Nat, j ≤ 5 ∧ k = .int .u8 ((j : Int) + 1) ∧ n = .int .i64 (cnt m j)) (fun _ k => 6 - (intOf k).toNat)
      case atStart => exact ⟨0, by omega, rfl, rfl⟩
      case round =>
        obtain ⟨j, hj, rfl, rfl⟩ := hrel
        have hb := cnt_bd m j
        by_cases hlt : j < 5
        · by_cases hc : cflB m ((j : Int) + 1) = true
          all_goals
            go_wp2_with (go_at_call 5; refine (zz_any _ _ _ hl (by omega) (by omega) (by omega)).mono ?_; rintro e w' ⟨rfl, rfl⟩)
            go_round
            case rel => exact ⟨j + 1, by omega, by go_num, by simp [cnt, hc]⟩
            case measure => simp [intOf]; omega
        · obtain rfl : j = 5 := by omega
          have hcn := HC.out
          have hsy := HS.out
          go_wp2_with (first | (go_at_call 5; refine (zz_any _ _ _ hl (by omega) (by omega) (by omega)).mono ?_; rintro e w' ⟨rfl, rfl⟩) | (go_at_call 7; refine (want_any _ _ (by omega) (by omega)).mono ?_; rintro e w' ⟨rfl, rfl⟩))
          go_ret
          exact ⟨rfl, rfl⟩
    · go_enter Tryd.func4, Tryd.ntmps4
      go_wp2
      go_ret
      exact ⟨rfl, rfl⟩
  · go_enter Tryd.func4, Tryd.ntmps4
    go_wp2
    go_ret
    exact ⟨rfl, rfl⟩

end Go.Proofs.Qxb6612272aDoor
