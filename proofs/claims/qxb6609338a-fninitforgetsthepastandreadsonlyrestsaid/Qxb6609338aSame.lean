/-
  Seat b6609338a: zzSameF, ZZneuronRefract, zzNeuronsSame over two neurons in the starting state.
-/
import Derived.Test.Qxb6609338aInit
import Derived.Deep.QuietTactic
import Derived.BigQuiet
import Derived.Test.Qxb6609338aQuick
import Derived.Deep.RegionWith
namespace Go.Proofs.Qxb6609338a
open Go.RowKit

set_option maxHeartbeats 400000 in
theorem sameF_any (x : Nat) (w : World) :
    Calls Try.prog 8 #[.float .f64 x, .float .f64 x] w fun e w' => e = .returned (.bool true) ∧ w' = w := by
  by_cases h : (FloatKind.f64.format.order x x == some .eq) = true
  · go_enter Try.func8, Try.ntmps8
    go_wp2
    go_ret
    exact ⟨rfl, rfl⟩
  · have h' : (FloatKind.f64.format.order x x == some .eq) = false := by simpa using h
    have h2 : (FloatKind.f64.format.order x x != some .eq) = true := by simpa using h
    clear h
    go_enter Try.func8, Try.ntmps8
    go_wp2
    go_ret
    exact ⟨rfl, rfl⟩

set_option maxHeartbeats 400000 in
theorem refract_any (b : Nat) (n : Int) (w : World) (h : w.cell? ⟨b, 21, none⟩ = some (.int .i64 n)) :
    Calls Try.prog 15 #[.pointer (some ⟨b, 0, none⟩)] w fun e w' => e = .returned (.int .i64 n) ∧ w' = w := by
  go_enter Try.func15, Try.ntmps15
  go_wp2
  go_ret
  exact ⟨rfl, rfl⟩

set_option maxHeartbeats 4000000 in
set_option maxRecDepth 100000 in
theorem same_any (a b x : Nat) (w : World)
    (e0 : w.cell? ⟨a, 0, none⟩ = some (.float .f64 x))
    (e1 : w.cell? ⟨a, 1, none⟩ = some (.float .f64 x))
    (e2 : w.cell? ⟨a, 2, none⟩ = some (.bool false))
    (e3 : w.cell? ⟨a, 3, none⟩ = some (.int .i64 (-1)))
    (e4 : w.cell? ⟨a, 4, none⟩ = some (.float .f64 13830554455654793216))
    (e5 : w.cell? ⟨a, 5, none⟩ = some (.float .f64 0))
    (e6 : w.cell? ⟨a, 6, none⟩ = some (.float .f64 0))
    (e7 : w.cell? ⟨a, 7, none⟩ = some (.float .f64 0))
    (e8 : w.cell? ⟨a, 8, none⟩ = some (.float .f64 0))
    (e9 : w.cell? ⟨a, 9, none⟩ = some (.float .f64 0))
    (e10 : w.cell? ⟨a, 10, none⟩ = some (.float .f64 0))
    (e11 : w.cell? ⟨a, 11, none⟩ = some (.float .f64 0))
    (e12 : w.cell? ⟨a, 12, none⟩ = some (.float .f64 0))
    (e13 : w.cell? ⟨a, 13, none⟩ = some (.float .f64 0))
    (e14 : w.cell? ⟨a, 14, none⟩ = some (.float .f64 0))
    (e15 : w.cell? ⟨a, 15, none⟩ = some (.float .f64 0))
    (e16 : w.cell? ⟨a, 16, none⟩ = some (.float .f64 0))
    (e17 : w.cell? ⟨a, 17, none⟩ = some (.float .f64 0))
    (e18 : w.cell? ⟨a, 18, none⟩ = some (.float .f64 0))
    (e19 : w.cell? ⟨a, 19, none⟩ = some (.float .f64 0))
    (e20 : w.cell? ⟨a, 20, none⟩ = some (.float .f64 0))
    (e21 : w.cell? ⟨a, 21, none⟩ = some (.int .i64 0))
    (f0 : w.cell? ⟨b, 0, none⟩ = some (.float .f64 x))
    (f1 : w.cell? ⟨b, 1, none⟩ = some (.float .f64 x))
    (f2 : w.cell? ⟨b, 2, none⟩ = some (.bool false))
    (f3 : w.cell? ⟨b, 3, none⟩ = some (.int .i64 (-1)))
    (f4 : w.cell? ⟨b, 4, none⟩ = some (.float .f64 13830554455654793216))
    (f5 : w.cell? ⟨b, 5, none⟩ = some (.float .f64 0))
    (f6 : w.cell? ⟨b, 6, none⟩ = some (.float .f64 0))
    (f7 : w.cell? ⟨b, 7, none⟩ = some (.float .f64 0))
    (f8 : w.cell? ⟨b, 8, none⟩ = some (.float .f64 0))
    (f9 : w.cell? ⟨b, 9, none⟩ = some (.float .f64 0))
    (f10 : w.cell? ⟨b, 10, none⟩ = some (.float .f64 0))
    (f11 : w.cell? ⟨b, 11, none⟩ = some (.float .f64 0))
    (f12 : w.cell? ⟨b, 12, none⟩ = some (.float .f64 0))
    (f13 : w.cell? ⟨b, 13, none⟩ = some (.float .f64 0))
    (f14 : w.cell? ⟨b, 14, none⟩ = some (.float .f64 0))
    (f15 : w.cell? ⟨b, 15, none⟩ = some (.float .f64 0))
    (f16 : w.cell? ⟨b, 16, none⟩ = some (.float .f64 0))
    (f17 : w.cell? ⟨b, 17, none⟩ = some (.float .f64 0))
    (f18 : w.cell? ⟨b, 18, none⟩ = some (.float .f64 0))
    (f19 : w.cell? ⟨b, 19, none⟩ = some (.float .f64 0))
    (f20 : w.cell? ⟨b, 20, none⟩ = some (.float .f64 0))
    (f21 : w.cell? ⟨b, 21, none⟩ = some (.int .i64 0)) :
    Calls Try.prog 7 #[.pointer (some ⟨a, 0, none⟩), .pointer (some ⟨b, 0, none⟩)] w fun e w' => e = .returned (.bool true) ∧ ∃ n, w' = w.drewN n := by
  go_enter Try.func7, Try.ntmps7
  go_wp2_with fail
  dsimp only [List.append]
  refine wp_region_quiet_lit (by kernel_rfl) (lexB_of (by kernel_rfl)) ?_
  repeat (first | go_big_quiet_step ((first | (go_at_call 8; exact Calls.quiet_of_same (sameF_any _ _)) | (go_at_call_of 15 a; exact Calls.quiet_of_same (refract_any a 0 _ (by simpa using e21))) | (go_at_call_of 15 b; exact Calls.quiet_of_same (refract_any b 0 _ (by simpa using f21))))) | quiet_step ((first | (go_at_call 8; exact Calls.quiet_of_same (sameF_any _ _)) | (go_at_call_of 15 a; exact Calls.quiet_of_same (refract_any a 0 _ (by simpa using e21))) | (go_at_call_of 15 b; exact Calls.quiet_of_same (refract_any b 0 _ (by simpa using f21))))))
  refine wpQuiet_nil ?_
  intro _ hw'
  obtain ⟨nq, hw''⟩ := hw'
  subst hw''
  go_wp2
  go_ret
  exact ⟨rfl, nq, rfl⟩

theorem same_fresh (a b x : Nat) (w : World) (ha : w.heap[a]? = some (.cells (fresh x) 34 (0, 0))) (hb : w.heap[b]? = some (.cells (fresh x) 34 (0, 0))) :
    Calls Try.prog 7 #[.pointer (some ⟨a, 0, none⟩), .pointer (some ⟨b, 0, none⟩)] w fun e w' => e = .returned (.bool true) ∧ ∃ n, w' = w.drewN n :=
  same_any a b x w (cell_of_row w a 0 _ 34 (0, 0) ha) (cell_of_row w a 1 _ 34 (0, 0) ha) (cell_of_row w a 2 _ 34 (0, 0) ha) (cell_of_row w a 3 _ 34 (0, 0) ha) (cell_of_row w a 4 _ 34 (0, 0) ha) (cell_of_row w a 5 _ 34 (0, 0) ha) (cell_of_row w a 6 _ 34 (0, 0) ha) (cell_of_row w a 7 _ 34 (0, 0) ha) (cell_of_row w a 8 _ 34 (0, 0) ha) (cell_of_row w a 9 _ 34 (0, 0) ha) (cell_of_row w a 10 _ 34 (0, 0) ha) (cell_of_row w a 11 _ 34 (0, 0) ha) (cell_of_row w a 12 _ 34 (0, 0) ha) (cell_of_row w a 13 _ 34 (0, 0) ha) (cell_of_row w a 14 _ 34 (0, 0) ha) (cell_of_row w a 15 _ 34 (0, 0) ha) (cell_of_row w a 16 _ 34 (0, 0) ha) (cell_of_row w a 17 _ 34 (0, 0) ha) (cell_of_row w a 18 _ 34 (0, 0) ha) (cell_of_row w a 19 _ 34 (0, 0) ha) (cell_of_row w a 20 _ 34 (0, 0) ha) (cell_of_row w a 21 _ 34 (0, 0) ha)
    (cell_of_row w b 0 _ 34 (0, 0) hb) (cell_of_row w b 1 _ 34 (0, 0) hb) (cell_of_row w b 2 _ 34 (0, 0) hb) (cell_of_row w b 3 _ 34 (0, 0) hb) (cell_of_row w b 4 _ 34 (0, 0) hb) (cell_of_row w b 5 _ 34 (0, 0) hb) (cell_of_row w b 6 _ 34 (0, 0) hb) (cell_of_row w b 7 _ 34 (0, 0) hb) (cell_of_row w b 8 _ 34 (0, 0) hb) (cell_of_row w b 9 _ 34 (0, 0) hb) (cell_of_row w b 10 _ 34 (0, 0) hb) (cell_of_row w b 11 _ 34 (0, 0) hb) (cell_of_row w b 12 _ 34 (0, 0) hb) (cell_of_row w b 13 _ 34 (0, 0) hb) (cell_of_row w b 14 _ 34 (0, 0) hb) (cell_of_row w b 15 _ 34 (0, 0) hb) (cell_of_row w b 16 _ 34 (0, 0) hb) (cell_of_row w b 17 _ 34 (0, 0) hb) (cell_of_row w b 18 _ 34 (0, 0) hb) (cell_of_row w b 19 _ 34 (0, 0) hb) (cell_of_row w b 20 _ 34 (0, 0) hb) (cell_of_row w b 21 _ 34 (0, 0) hb)
end Go.Proofs.Qxb6609338a
