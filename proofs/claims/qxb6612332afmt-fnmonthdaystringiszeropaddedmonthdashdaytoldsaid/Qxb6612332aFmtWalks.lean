/-
  Seat b6612332aF: the walks of the functions on the road, fmt's text told.
-/
import Derived.Test.Qxb6612332aFmtFacts
import Derived.WalkKit
import Derived.WalkSpells
import Derived.WalkLawsBesides
import Derived.Laws.BytesArg
namespace Go.Proofs.Qxb6612332aFmt
open Go.RowKit Go.Extern.Stop Go.Stop Go.Extern Go.Kit

set_option maxHeartbeats 400000 in
theorem string_any (F : Interp) (m d : Int) (w : World) (hF : F.answers w.tape) :
    Calls Tryf.prog 7 #[.agg #[.int .i64 m, .int .i64 d]] w fun e w' => e = .returned (.string (FmtStop.textOf (F "fmt.Sprintf" (reading m d) 0))) ∧
      w' = ((w.alloc (.cells #[.int .i64 m, .int .i64 d] 25)).alloc (.cells #[.iface 3 (.int .i64 m), .iface 3 (.int .i64 d)] 20)).drew := by
  have hF' := answers_open hF
  go_enter Tryf.func7, Tryf.ntmps7
  go_wp2
  go_ret
  exact ⟨rfl, rfl⟩

/-- The text of a month-day, as a Go string. -/
def mdS (m d : Int) : ByteArray := ⟨(md m d).toArray⟩

theorem string_told (F : Interp) (m d : Int) (w : World) (hF : F.told.answers w.tape) (m0 : 0 ≤ m) (m1 : m ≤ 99) (d0 : 0 ≤ d) (d1 : d ≤ 99) :
    Calls Tryf.prog 7 #[.agg #[.int .i64 m, .int .i64 d]] w fun e w' => e = .returned (.string (mdS m d)) ∧ Below w.heap.size w w' := by
  refine (string_any F.told m d w hF).mono ?_
  rintro e w' ⟨rfl, rfl⟩
  have ht := told_md F m0 m1 d0 d1
  refine ⟨?_, (((Below.refl _ _).alloc (Nat.le_refl _) _).alloc (by simp) _).drew⟩
  have he : FmtStop.textOf (F.told "fmt.Sprintf" (reading m d) 0) = mdS m d := by
    generalize FmtStop.textOf (F.told "fmt.Sprintf" (reading m d) 0) = s at ht
    obtain ⟨⟨l⟩⟩ := s
    simp only [mdS] at ht ⊢
    rw [← ht]
  rw [he]

set_option maxHeartbeats 400000 in
theorem new_any (m d : Int) (w : World) :
    Calls Tryf.prog 6 #[.int .i64 m, .int .i64 d] w fun e w' => e = .returned (.agg #[.int .i64 m, .int .i64 d]) ∧ Below w.heap.size w w' := by
  go_enter Tryf.func6, Tryf.ntmps6
  go_wp2
  exact bodyPost_ret (v := .agg #[.int .i64 m, .int .i64 d]) (by simp [results, Tryf.results6, go_sem]) rfl ⟨rfl, (Below.refl _ _).alloc (Nat.le_refl _) _⟩

theorem nums_two {n : Int} (n0 : 0 ≤ n) : strOfNums [48 + n / 10, 48 + n % 10] = ⟨(two n).toArray⟩ := by
  have h1 : (48 + n / 10).toNat = 48 + n.toNat / 10 := by omega
  have h2 : (48 + n % 10).toNat = 48 + n.toNat % 10 := by omega
  simp [strOfNums, two, h1, h2]

set_option maxHeartbeats 400000 in
theorem two_any (n : Int) (w : World) (n0 : 0 ≤ n) (n1 : n ≤ 99) :
    Calls Tryf.prog 8 #[.int .i64 n] w fun e w' => e = .returned (.string ⟨(two n).toArray⟩) ∧ Below w.heap.size w w' := by
  have hcv := run_convert_bytes_arg (P := Tryf.prog) (w.alloc (.cells #[.int .u8 (48 + n / 10), .int .u8 (48 + n % 10)] 5)) 32 5 Tryf.underlying32 Tryf.underlying5 w.heap.size 0 2 2 [48 + n / 10, 48 + n % 10] rfl
    (by intro i hi; match i, hi with | 0, _ => simp | 1, _ => simp) 9 Tryf.underlying9
  rw [nums_two n0] at hcv
  go_enter Tryf.func8, Tryf.ntmps8
  go_wp2
  go_ret
  exact ⟨rfl, (Below.refl _ _).alloc (Nat.le_refl _) _⟩

/-- 'zzDaysInMonth'. -/
def dim (m : Int) : Int := if m = 2 then 28 else if m = 4 ∨ m = 6 ∨ m = 9 ∨ m = 11 then 30 else 31
theorem upto12 {m : Int} (h0 : 1 ≤ m) (h1 : m ≤ 12) : m = 1 ∨ m = 2 ∨ m = 3 ∨ m = 4 ∨ m = 5 ∨ m = 6 ∨ m = 7 ∨ m = 8 ∨ m = 9 ∨ m = 10 ∨ m = 11 ∨ m = 12 := by omega
theorem dim_le (m : Int) : dim m ≤ 31 := by unfold dim; (repeat' split) <;> omega

set_option maxHeartbeats 1000000 in
theorem dim_any (m : Int) (w : World) (h0 : 1 ≤ m) (h1 : m ≤ 12) :
    Calls Tryf.prog 9 #[.int .i64 m] w fun e w' => e = .returned (.int .i64 (dim m)) ∧ w' = w := by
  rcases upto12 h0 h1 with rfl | rfl | rfl | rfl | rfl | rfl | rfl | rfl | rfl | rfl | rfl | rfl
  all_goals
    clear h0 h1
    go_enter Tryf.func9, Tryf.ntmps9
    go_wp2
    go_ret
    exact ⟨rfl, rfl⟩

/-- 'zzMonthDayIn'. -/
def inP (m d : Int) : Prop := 1 ≤ m ∧ m ≤ 12 ∧ 1 ≤ d ∧ d ≤ dim m

set_option maxHeartbeats 1000000 in
theorem in_true (m d : Int) (w : World) (h : inP m d) :
    Calls Tryf.prog 5 #[.int .i64 m, .int .i64 d] w fun e w' => e = .returned (.bool true) ∧ w' = w := by
  obtain ⟨m0, m1, d0, d1⟩ := h
  go_enter Tryf.func5, Tryf.ntmps5
  go_wp2_with (go_at_call 9; refine (dim_any _ _ (by omega) (by omega)).mono ?_; rintro e w' ⟨rfl, rfl⟩)
  go_ret
  exact ⟨rfl, rfl⟩

set_option maxHeartbeats 1000000 in
theorem in_false (m d : Int) (w : World) (h : ¬ inP m d) :
    Calls Tryf.prog 5 #[.int .i64 m, .int .i64 d] w fun e w' => e = .returned (.bool false) ∧ w' = w := by
  have H : Hid (¬ inP m d) := h
  clear h
  by_cases m0 : 1 ≤ m
  · by_cases m1 : m ≤ 12
    · by_cases d0 : 1 ≤ d
      · have d1 : decide (d ≤ dim m) = false := by have := H.out; unfold inP at this; simp; omega
        go_enter Tryf.func5, Tryf.ntmps5
        go_wp2_with (go_at_call 9; refine (dim_any _ _ (by omega) (by omega)).mono ?_; rintro e w' ⟨rfl, rfl⟩)
        go_ret
        exact ⟨rfl, rfl⟩
      · go_enter Tryf.func5, Tryf.ntmps5
        go_wp2
        go_ret
        exact ⟨rfl, rfl⟩
    · go_enter Tryf.func5, Tryf.ntmps5
      go_wp2
      go_ret
      exact ⟨rfl, rfl⟩
  · go_enter Tryf.func5, Tryf.ntmps5
    go_wp2
    go_ret
    exact ⟨rfl, rfl⟩
end Go.Proofs.Qxb6612332aFmt
