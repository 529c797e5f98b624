/-
  Seat b6612365a: FnContributionMarshalTextKeepsByteOrder and FnTxIDStringSeparatesIDsAndMatchesContribution, walked.
-/
import Derived.Test.Qxb6612365aTexts
import Derived.Deep.RegionWith
import Derived.Lib.SmallJoins
namespace Go.Proofs.Qxb6612365a
open Go.RowKit

theorem text_cells {w : World} {g : Nat} {l : List UInt8} (hl : l.length = 32) (h : TextAt w g l) (i : Nat) (hi : i < (Lib.Hx.encode l).length) :
    w.cell? ⟨g, i, none⟩ = some (.int .u8 (((Lib.Hx.encode l)[i]'hi).toNat : Int)) := by
  have h2 := hi
  rw [Lib.Hx.encode_length, hl] at h2
  rw [h i (by omega)]
  simp [hi]
/-- What came before is there: a box's row. -/
theorem row_later {w w' : World} {B g : Nat} {o : Obj} (hb : Below B w w') (hg : g < B) (h : w.heap[g]? = some o) : w'.heap[g]? = some o := (hb.block g hg).trans h

set_option maxHeartbeats 1000000 in
theorem order_any (x y : List UInt8) (w : World) (hx : x.length = 32) (hy : y.length = 32) :
    Calls Try.prog 4 #[.agg (cellsOf x), .agg (cellsOf y)] w fun e w' => e = .returned (.bool true) ∧ Below w.heap.size w w' := by
  have HX : Hid (x.length = 32) := hx
  have HY : Hid (y.length = 32) := hy
  have IX : Hid ((Try.prog.info? 22).map (·.size) = some (cellsOf x).size) := by rw [Hid, cellsOf_size, hx]; exact info22
  have IY : Hid ((Try.prog.info? 22).map (·.size) = some (cellsOf y).size) := by rw [Hid, cellsOf_size, hy]; exact info22
  have HC : Hid ((cmpI (Lib.Hx.encode x) (Lib.Hx.encode y) == cmpI x y) = true) := by rw [Hid, cmp_encode x y (by omega)]; simp
  have hb0 : Below w.heap.size w ((w.alloc (.cells (cellsOf x) 22)).alloc (.cells (cellsOf y) 22)) := ((Below.refl _ _).alloc (Nat.le_refl _) _).alloc (by simp) _
  have r0 : ((w.alloc (.cells (cellsOf x) 22)).alloc (.cells (cellsOf y) 22)).heap[w.heap.size]? = some (.cells (cellsOf x) 22 (0, 0)) := by
    rw [Below.heap_alloc _ _ _ (by simp)]; exact heap_alloc_last w _
  have r1 : ((w.alloc (.cells (cellsOf x) 22)).alloc (.cells (cellsOf y) 22)).heap[w.heap.size + 1]? = some (.cells (cellsOf y) 22 (0, 0)) := heap_last_at _ _ _ (by simp)
  have R0 : Hid (((w.alloc (.cells (cellsOf x) 22)).alloc (.cells (cellsOf y) 22)).heap[w.heap.size]? = some (.cells (cellsOf x) 22 (0, 0))) := r0
  have R1 : Hid (((w.alloc (.cells (cellsOf x) 22)).alloc (.cells (cellsOf y) 22)).heap[w.heap.size + 1]? = some (.cells (cellsOf y) 22 (0, 0))) := r1
  clear hx hy r0 r1
  go_enter Try.func4, Try.ntmps4
  go_wp2_with (refine wpList_load_row rfl 22 _ rfl _ rfl 22 _ (0, 0) _ R0.out Try.underlying22 rfl IX.out ?_)
  refine (marshal_any x _ HX.out).mono ?_
  rintro e w1 ⟨g1, cap1, rfl, hg1, hl1, hT1, b1⟩
  have q0 := row_later b1 (by simp; omega) R0.out
  have q1 := row_later b1 (by simp) R1.out
  have Q1 : Hid (w1.heap[w.heap.size + 1]? = some (.cells (cellsOf y) 22 (0, 0))) := q1
  have Q0 : Hid (w1.heap[w.heap.size]? = some (.cells (cellsOf x) 22 (0, 0))) := q0
  have T1 : Hid (TextAt w1 g1 x) := hT1
  clear q0 q1 hT1
  go_wp2_with (refine wpList_load_row rfl 22 _ rfl _ rfl 22 _ (0, 0) _ Q1.out Try.underlying22 rfl IY.out ?_)
  refine (marshal_any y _ HY.out).mono ?_
  rintro e w2 ⟨g2, cap2, rfl, hg2, hl2, hT2, b2⟩
  have z1 := b1.size
  have z2 := b2.size
  simp at z1 hg1
  have S0 : Hid (w2.heap[w.heap.size]? = some (.cells (cellsOf x) 22 (0, 0))) := row_later b2 (by omega) Q0.out
  have S1 : Hid (w2.heap[w.heap.size + 1]? = some (.cells (cellsOf y) 22 (0, 0))) := row_later b2 (by omega) Q1.out
  have T2 : Hid (TextAt w2 g2 y) := hT2
  have U1 : Hid (TextAt w2 g1 x) := fun i hi => (b2.cell (p := ⟨g1, i, none⟩) hl1).trans (T1.out i hi)
  clear hT2
  have hA : ∀ n, Calls Try.prog 8 #[.slice (some ⟨g1, 0, none⟩) 64 cap1, .slice (some ⟨g2, 0, none⟩) 64 cap2] (w2.drewN n) fun e w' => e = .returned (.int .i64 (cmpI (Lib.Hx.encode x) (Lib.Hx.encode y))) ∧ ∃ m, w' = (w2.drewN n).drewN m := fun n =>
    cmp_any 64 g1 g2 cap1 cap2 _ _ (w2.drewN n) (by omega) (by rw [Lib.Hx.encode_length, HX.out]) (by rw [Lib.Hx.encode_length, HY.out]) (text_cells HX.out U1.out) (text_cells HY.out T2.out)
  have hB : ∀ n, Calls Try.prog 8 #[.slice (some ⟨w.heap.size, 0, none⟩) 32 32, .slice (some ⟨w.heap.size + 1, 0, none⟩) 32 32] (w2.drewN n) fun e w' => e = .returned (.int .i64 (cmpI x y)) ∧ ∃ m, w' = (w2.drewN n).drewN m := fun n =>
    cmp_any 32 w.heap.size (w.heap.size + 1) 32 32 x y (w2.drewN n) (by omega) HX.out HY.out
      (fun i hi => (cell_of_row w2 _ i _ 22 (0, 0) S0.out).trans (cellsOf_at x i hi)) (fun i hi => (cell_of_row w2 _ i _ 22 (0, 0) S1.out).trans (cellsOf_at y i hi))
  have KA : Hid (∀ n, Calls Try.prog 8 #[.slice (some ⟨g1, 0, none⟩) 64 cap1, .slice (some ⟨g2, 0, none⟩) 64 cap2] (w2.drewN n) fun e w' => e = .returned (.int .i64 (cmpI (Lib.Hx.encode x) (Lib.Hx.encode y))) ∧ ∃ m, w' = (w2.drewN n).drewN m) := hA
  have KB : Hid (∀ n, Calls Try.prog 8 #[.slice (some ⟨w.heap.size, 0, none⟩) 32 32, .slice (some ⟨w.heap.size + 1, 0, none⟩) 32 32] (w2.drewN n) fun e w' => e = .returned (.int .i64 (cmpI x y)) ∧ ∃ m, w' = (w2.drewN n).drewN m) := hB
  clear hA hB
  go_wp2_with fail
  go_quiet (first | (go_at_call_of 8 g1; exact Calls.quiet_of (KA.out _)) | (go_at_call 8; exact Calls.quiet_of (KB.out _)))
  go_wp2
  go_ret
  exact ⟨congrArg (fun b => Ending.returned (.bool b)) HC.out, (((hb0.trans (b1.mono (by simp; omega))).trans (b2.mono (by omega))).trans (Joins.below_draws _ _ _))⟩
end Go.Proofs.Qxb6612365a
