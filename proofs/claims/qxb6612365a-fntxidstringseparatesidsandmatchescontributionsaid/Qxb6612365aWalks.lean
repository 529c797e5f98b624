/-
  Seat b6612365a: the walks of the functions on the road: String, MarshalText, hexValue.
-/
import Derived.Test.Qxb6612365aRows
import Derived.Test.Qxb6612365aShelf
import Derived.WalkKit
import Derived.WalkSpells
import Derived.WalkLawsBesides
import Derived.Lib.ConvBytes
import Derived.Deep.WholeRow
namespace Go.Proofs.Qxb6612365a
open Go.RowKit

/-- An array of bytes as a Go value's cells. -/
def cellsOf (l : List UInt8) : Array Value := (l.map fun b => Value.int .u8 (b.toNat : Int)).toArray
theorem cellsOf_size (l : List UInt8) : (cellsOf l).size = l.length := by simp [cellsOf]
theorem cellsOf_at (l : List UInt8) (i : Nat) (h : i < l.length) : (cellsOf l)[i]? = some (.int .u8 ((l[i]'h).toNat : Int)) := by simp [cellsOf, h]
/-- The text: two lower-case digits a byte. -/
def hexS (l : List UInt8) : ByteArray := ⟨(Lib.Hx.encode l).toArray⟩
theorem hexS_size (l : List UInt8) (hl : l.length = 32) : (hexS l).size = 64 := by
  show (Lib.Hx.encode l).toArray.size = 64
  simp [Lib.Hx.encode_length, hl]
theorem hexS_list (l : List UInt8) : (hexS l).data.toList = Lib.Hx.encode l := rfl

theorem heap_last_at (w : World) (o : Obj) (g : Nat) (hg : g = w.heap.size) : (w.alloc o).heap[g]? = some o := by
  subst hg; exact heap_alloc_last w o
theorem info27 : (Try.prog.info? 27).map (·.size) = some 32 := by kernel_rfl
theorem info22 : (Try.prog.info? 22).map (·.size) = some 32 := by kernel_rfl
theorem info33 : (Try.prog.info? 33).map (·.size) = some 32 := by kernel_rfl

/-- hex.EncodeToString over the array that was boxed last. -/
theorem enc32 (l : List UInt8) (w : World) (t : TypeId) (hl : l.length = 32) :
    Calls Try.prog 12 #[.slice (some ⟨w.heap.size, 0, none⟩) 32 32] (w.alloc (.cells (cellsOf l) t)) fun e w' => e = .returned (.string (hexS l)) ∧ Below w.heap.size w w' := by
  have h := Try.hex_EncodeToString_bytes w.heap.size 0 32 l (w.alloc (.cells (cellsOf l) t)) (fun i hi => by
    rw [Nat.zero_add, cell_of_row _ _ i (cellsOf l) t (0, 0) (heap_alloc_last w _)]
    exact cellsOf_at l i hi) (by simp) (by omega)
  rw [hl] at h
  refine h.mono fun e w' ⟨he, hb⟩ => ⟨he, ?_⟩
  exact ((Below.refl _ _).alloc (Nat.le_refl _) _).trans (hb.mono (by simp))

set_option maxHeartbeats 400000 in
theorem cstring_any (l : List UInt8) (w : World) (hl : l.length = 32) :
    Calls Try.prog 11 #[.agg (cellsOf l)] w fun e w' => e = .returned (.string (hexS l)) ∧ Below w.heap.size w w' := by
  have HL : Hid (l.length = 32) := hl
  clear hl
  go_enter Try.func11, Try.ntmps11
  go_wp2_with fail
  refine (enc32 l w 27 HL.out).mono ?_
  rintro e w1 ⟨rfl, b1⟩
  go_wp2
  go_ret
  exact ⟨rfl, b1⟩

set_option maxHeartbeats 400000 in
theorem tstring_any (l : List UInt8) (w : World) (hl : l.length = 32) :
    Calls Try.prog 9 #[.agg (cellsOf l)] w fun e w' => e = .returned (.string (hexS l)) ∧ Below w.heap.size w w' := by
  have HL : Hid (l.length = 32) := hl
  clear hl
  go_enter Try.func9, Try.ntmps9
  go_wp2_with fail
  refine (enc32 l w 33 HL.out).mono ?_
  rintro e w1 ⟨rfl, b1⟩
  go_wp2
  go_ret
  exact ⟨rfl, b1⟩

/-- A slice's 64 cells hold the text's digits. -/
def TextAt (w : World) (g : Nat) (l : List UInt8) : Prop := ∀ i, i < 64 → w.cell? ⟨g, i, none⟩ = some (.int .u8 (((Lib.Hx.encode l).getD i 0).toNat : Int))

theorem bytesWorld_below (w : World) (e : TypeId) (s : ByteArray) : Below w.heap.size w (Lib.bytesWorld w e s) :=
  ⟨rfl, rfl, rfl, by rw [Lib.bytesWorld_size]; omega, fun k hk => Lib.bytesWorld_at_old w e s k hk⟩

set_option maxHeartbeats 400000 in
theorem marshal_any (l : List UInt8) (w : World) (hl : l.length = 32) :
    Calls Try.prog 6 #[.agg (cellsOf l)] w fun e w' => ∃ g cap, e = .returned (.tuple #[.slice (some ⟨g, 0, none⟩) 64 cap, .nilIface]) ∧ w.heap.size ≤ g ∧ g < w'.heap.size ∧ TextAt w' g l ∧ Below w.heap.size w w' := by
  have HL : Hid (l.length = 32) := hl
  have hi : (Try.prog.info? 27).map (·.size) = some (cellsOf l).size := by rw [cellsOf_size, hl]; exact info27
  have HI : Hid ((Try.prog.info? 27).map (·.size) = some (cellsOf l).size) := hi
  have hcv := fun (w : World) => Lib.run_convert_string_bytes (P := Try.prog) w 9 23 5 (hexS l) Try.underlying9 Try.underlying23 Try.underlying5
  rw [hexS_size l hl] at hcv
  clear hl hi
  go_enter Try.func6, Try.ntmps6
  go_wp2_with (first | (refine wpList_load_row rfl 27 _ rfl _ rfl 27 _ (0, 0) _ (heap_last_at _ _ _ rfl) Try.underlying27 rfl HI.out ?_) | (go_at_call 11; refine (cstring_any l _ HL.out).mono ?_; rintro e w1 ⟨rfl, b1⟩))
  go_ret2
  have z1 := b1.size
  refine ⟨w1.heap.size, grownCap w1 64 0 5, rfl, by simp at z1; omega, by rw [Lib.bytesWorld_size]; omega, fun i hi => ?_, ?_⟩
  · rw [Lib.bytesWorld_cell w1 5 (hexS l) i (by rw [hexS_size l HL.out]; exact hi)]
    rfl
  · exact (((Below.refl _ _).alloc (Nat.le_refl _) _).trans (b1.mono (by simp))).trans ((bytesWorld_below w1 5 (hexS l)).mono (by simp at z1; omega))

set_option maxHeartbeats 400000 in
theorem hexv_low (c : Int) (w : World) (h0 : 48 ≤ c) (h1 : c ≤ 57) :
    Calls Try.prog 7 #[.int .u8 c] w fun e w' => e = .returned (.int .i64 (c - 48)) ∧ w' = w := by
  go_enter Try.func7, Try.ntmps7
  go_wp2
  go_ret
  exact ⟨rfl, rfl⟩
set_option maxHeartbeats 400000 in
theorem hexv_high (c : Int) (w : World) (h0 : 97 ≤ c) (h1 : c ≤ 102) :
    Calls Try.prog 7 #[.int .u8 c] w fun e w' => e = .returned (.int .i64 (c - 97 + 10)) ∧ w' = w := by
  go_enter Try.func7, Try.ntmps7
  go_wp2
  go_ret
  exact ⟨rfl, rfl⟩
/-- c is the digit of v. -/
def Dig (c v : Int) : Prop := (48 ≤ c ∧ c ≤ 57 ∧ v = c - 48) ∨ (97 ≤ c ∧ c ≤ 102 ∧ v = c - 97 + 10)
theorem hexv_any (c v : Int) (w : World) (h : Dig c v) :
    Calls Try.prog 7 #[.int .u8 c] w fun e w' => e = .returned (.int .i64 v) ∧ w' = w := by
  rcases h with ⟨h0, h1, rfl⟩ | ⟨h0, h1, rfl⟩
  · exact hexv_low c w h0 h1
  · exact hexv_high c w h0 h1
theorem digit_fin : ∀ d : Fin 16, Dig ((Lib.Hx.digit d.val).toNat : Int) (d.val : Int) := by
  unfold Dig; decide +kernel
theorem dig_hi (b : UInt8) : Dig ((Lib.Hx.digit (b.toNat / 16)).toNat : Int) ((b.toNat / 16 : Nat) : Int) := digit_fin ⟨b.toNat / 16, by have := b.toNat_lt; omega⟩
theorem dig_lo (b : UInt8) : Dig ((Lib.Hx.digit (b.toNat % 16)).toNat : Int) ((b.toNat % 16 : Nat) : Int) := digit_fin ⟨b.toNat % 16, by omega⟩
theorem Dig.bd {c v : Int} (h : Dig c v) : 0 ≤ v ∧ v ≤ 15 ∧ 0 ≤ c ∧ c ≤ 255 := by unfold Dig at h; omega
end Go.Proofs.Qxb6612365a
