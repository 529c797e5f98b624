/-
  Seat b6612365a: FnTxIDStringSeparatesIDsAndMatchesContribution, walked.
-/
import Derived.Test.Qxb6612365aOrder
namespace Go.Proofs.Qxb6612365a
open Go.RowKit

theorem text_back (x : List UInt8) (hx : x.length = 32) (w : World) (g cap : Nat) (h : TextAt w g x) :
    (convert 23 9 (.slice (some ⟨g, 0, none⟩) 64 cap)).run Try.prog w = .ok (.string (hexS x)) w := by
  have e := run_convert_bytes_back (P := Try.prog) w 23 9 5 ⟨g, 0, none⟩ cap (Lib.Hx.encode x) Try.underlying23 Try.underlying5 Try.underlying9 (fun j hj => by
    have hadd : (⟨g, 0, none⟩ : Addr).add j = ⟨g, j, none⟩ := by unfold Addr.add; split <;> simp_all
    rw [hadd]
    exact text_cells hx h j hj)
  rw [Lib.Hx.encode_length, hx] at e
  exact e
theorem hexS_eq (x y : List UInt8) : ((hexS x).toList == (hexS y).toList) = decide (x = y) := by
  rw [ByteArray.toList_eq, ByteArray.toList_eq, hexS_list, hexS_list, Bool.eq_iff_iff, beq_iff_eq, decide_eq_true_eq]
  exact encode_inj x y

set_option maxHeartbeats 1000000 in
theorem separate_any (x y : List UInt8) (w : World) (hx : x.length = 32) (hy : y.length = 32) :
    Calls Try.prog 5 #[.agg (cellsOf x), .agg (cellsOf y)] w fun e w' => e = .returned (.bool true) ∧ Below w.heap.size w w' := by
  have HX : Hid (x.length = 32) := hx
  have HY : Hid (y.length = 32) := hy
  have IX : Hid ((Try.prog.info? 22).map (·.size) = some (cellsOf x).size) := by rw [Hid, cellsOf_size, hx]; exact info22
  have IY : Hid ((Try.prog.info? 22).map (·.size) = some (cellsOf y).size) := by rw [Hid, cellsOf_size, hy]; exact info22
  obtain ⟨r, hr⟩ : ∃ r : Bool, r = decide (x = y) := ⟨_, rfl⟩
  have hs := hexS_eq x y
  rw [← hr] at hs
  have ha := fun w => arrays_eq hx hy w
  rw [← hr] at ha
  have hne : ((hexS x).toList != (hexS x).toList) = false := by simp
  have hb0 : Below w.heap.size w ((w.alloc (.cells (cellsOf x) 22)).alloc (.cells (cellsOf y) 22)) := ((Below.refl _ _).alloc (Nat.le_refl _) _).alloc (by simp) _
  have R0 : Hid (((w.alloc (.cells (cellsOf x) 22)).alloc (.cells (cellsOf y) 22)).heap[w.heap.size]? = some (.cells (cellsOf x) 22 (0, 0))) := by
    rw [Hid, Below.heap_alloc _ _ _ (by simp)]; exact heap_alloc_last w _
  have R1 : Hid (((w.alloc (.cells (cellsOf x) 22)).alloc (.cells (cellsOf y) 22)).heap[w.heap.size + 1]? = some (.cells (cellsOf y) 22 (0, 0))) := heap_last_at _ _ _ (by simp)
  clear hx hy hr
  go_enter Try.func5, Try.ntmps5
  go_wp2_with (refine wpList_load_row rfl 22 _ rfl _ rfl 22 _ (0, 0) _ R0.out Try.underlying22 rfl IX.out ?_)
  refine (tstring_any x _ HX.out).mono ?_
  rintro e w1 ⟨rfl, b1⟩
  have z1 := b1.size
  simp at z1
  have Q0 : Hid (w1.heap[w.heap.size]? = some (.cells (cellsOf x) 22 (0, 0))) := row_later b1 (by simp; omega) R0.out
  have Q1 : Hid (w1.heap[w.heap.size + 1]? = some (.cells (cellsOf y) 22 (0, 0))) := row_later b1 (by simp) R1.out
  go_wp2_with (refine wpList_load_row rfl 22 _ rfl _ rfl 22 _ (0, 0) _ Q1.out Try.underlying22 rfl IY.out ?_)
  refine (tstring_any y _ HY.out).mono ?_
  rintro e w2 ⟨rfl, b2⟩
  have z2 := b2.size
  have S0 : Hid (w2.heap[w.heap.size]? = some (.cells (cellsOf x) 22 (0, 0))) := row_later b2 (by omega) Q0.out
  have S1 : Hid (w2.heap[w.heap.size + 1]? = some (.cells (cellsOf y) 22 (0, 0))) := row_later b2 (by omega) Q1.out
  go_wp2_with (refine wpList_load_row rfl 22 _ rfl _ rfl 22 _ (0, 0) _ S0.out Try.underlying22 rfl IX.out ?_)
  refine (marshal_any x _ HX.out).mono ?_
  rintro e w3 ⟨g, cap, rfl, hg, hl, hT, b3⟩
  have z3 := b3.size
  have T0 : Hid (w3.heap[w.heap.size]? = some (.cells (cellsOf x) 22 (0, 0))) := row_later b3 (by omega) S0.out
  have T1 : Hid (w3.heap[w.heap.size + 1]? = some (.cells (cellsOf y) 22 (0, 0))) := row_later b3 (by omega) S1.out
  have hcv := text_back x HX.out w3 g cap hT
  clear hT
  go_wp2_with fail
  refine (lower_any (hexS x) _ (hexS_size x HX.out) (lower_hexS x HX.out)).mono ?_
  rintro e w4 ⟨rfl, hw4⟩
  subst hw4
  go_wp2_with fail
  refine (lower_any (hexS y) _ (hexS_size y HY.out) (lower_hexS y HY.out)).mono ?_
  rintro e w5 ⟨rfl, hw5⟩
  subst hw5
  go_wp2_with (first | (refine wpList_load_row rfl 22 _ rfl _ rfl 22 _ (0, 0) _ T0.out Try.underlying22 rfl IX.out ?_) | (refine wpList_load_row rfl 22 _ rfl _ rfl 22 _ (0, 0) _ T1.out Try.underlying22 rfl IY.out ?_))
  go_ret
  exact ⟨rfl, ((hb0.trans (b1.mono (by simp; omega))).trans (b2.mono (by omega))).trans (b3.mono (by omega))⟩
end Go.Proofs.Qxb6612365a
