/-
  Seat b6612365a: FnContributionMarshalTextDecodesBack, walked.
-/
import Derived.Test.Qxb6612365aWalks
namespace Go.Proofs.Qxb6612365a
open Go.RowKit

theorem enc_hi {l : List UInt8} {k : Nat} (h : k < l.length) : (Lib.Hx.encode l).getD (2 * k) 0 = Lib.Hx.digit ((l[k]'h).toNat / 16) := by
  have := (Lib.Hx.encode_at l k (l[k]'h) (by simp [h])).1
  simp [this]
theorem enc_lo {l : List UInt8} {k : Nat} (h : k < l.length) : (Lib.Hx.encode l).getD (2 * k + 1) 0 = Lib.Hx.digit ((l[k]'h).toNat % 16) := by
  have := (Lib.Hx.encode_at l k (l[k]'h) (by simp [h])).2
  simp [this]

set_option maxHeartbeats 1000000 in
theorem decodes_any (l : List UInt8) (w : World) (hl : l.length = 32) :
    Calls Try.prog 3 #[.agg (cellsOf l)] w fun e w' => e = .returned (.bool true) ∧ Below w.heap.size w w' := by
  have HL : Hid (l.length = 32) := hl
  have hi : (Try.prog.info? 22).map (·.size) = some (cellsOf l).size := by rw [cellsOf_size, hl]; exact info22
  have HI : Hid ((Try.prog.info? 22).map (·.size) = some (cellsOf l).size) := hi
  clear hl hi
  go_enter Try.func3, Try.ntmps3
  go_wp2_with (first | (refine wpList_load_row rfl 22 _ rfl _ rfl 22 _ (0, 0) _ (heap_last_at _ _ _ rfl) Try.underlying22 rfl HI.out ?_) | (go_at_call 6; refine (marshal_any l _ HL.out).mono ?_; rintro e w1 ⟨g, cap, rfl, hg0, hg1, hT, b1⟩))
  go_loop [5, 6, 7] (fun i _ _ => ∃ k : Nat, k ≤ 32 ∧ i = .int .i64 k) (fun i _ _ => 32 - (intOf i).toNat)
  case atStart => exact ⟨0, by omega, rfl⟩
  case round =>
    obtain ⟨k, hk, rfl⟩ := hrel
    by_cases hlt : k < 32
    · have hkl : k < l.length := by rw [HL.out]; exact hlt
      obtain ⟨c1, hc1⟩ : ∃ c1 : Int, c1 = ((Lib.Hx.digit ((l[k]'hkl).toNat / 16)).toNat : Int) := ⟨_, rfl⟩
      obtain ⟨c2, hc2⟩ : ∃ c2 : Int, c2 = ((Lib.Hx.digit ((l[k]'hkl).toNat % 16)).toNat : Int) := ⟨_, rfl⟩
      have t1 := hT (2 * k) (by omega)
      rw [enc_hi hkl, ← hc1] at t1
      have t2 := hT (2 * k + 1) (by omega)
      rw [enc_lo hkl, ← hc2] at t2
      have t3 : w1.cell? ⟨w.heap.size, k, none⟩ = some (.int .u8 ((l[k]'hkl).toNat : Int)) := by
        rw [b1.cell (p := ⟨w.heap.size, k, none⟩) (by simp), cell_of_row _ _ k (cellsOf l) 22 (0, 0) (heap_alloc_last w _)]
        exact cellsOf_at l k hkl
      have D1 : Hid (Dig c1 (((l[k]'hkl).toNat / 16 : Nat) : Int)) := by rw [hc1]; exact dig_hi _
      have D2 : Hid (Dig c2 (((l[k]'hkl).toNat % 16 : Nat) : Int)) := by rw [hc2]; exact dig_lo _
      obtain ⟨v1, hv1⟩ : ∃ v1 : Int, v1 = (((l[k]'hkl).toNat / 16 : Nat) : Int) := ⟨_, rfl⟩
      obtain ⟨v2, hv2⟩ : ∃ v2 : Int, v2 = (((l[k]'hkl).toNat % 16 : Nat) : Int) := ⟨_, rfl⟩
      obtain ⟨b, hb⟩ : ∃ b : Int, b = ((l[k]'hkl).toNat : Int) := ⟨_, rfl⟩
      rw [← hv1] at D1
      rw [← hv2] at D2
      rw [← hb] at t3
      have hq : (v1 * 16 + v2 != b) = false := by simp; omega
      have hb0 : 0 ≤ b := by omega
      have hb1 : b ≤ 255 := by have := (l[k]'hkl).toNat_lt; omega
      have e1 := D1.out.bd
      have e2 := D2.out.bd
      clear hc1 hc2 hv1 hv2 hb hT
      go_wp2_with fail
      refine (hexv_any c1 v1 w1 D1.out).mono ?_
      rintro e w2 ⟨rfl, hw2⟩
      subst hw2
      go_wp2_with fail
      refine (hexv_any c2 v2 _ D2.out).mono ?_
      rintro e w3 ⟨rfl, hw3⟩
      subst hw3
      go_wp2
      go_round
      case rel => exact ⟨k + 1, by omega, by go_num⟩
      case measure => simp [intOf]; omega
    · clear hT
      go_wp2
      go_ret
      exact ⟨rfl, ((Below.refl _ _).alloc (Nat.le_refl _) _).trans (b1.mono (by simp))⟩
end Go.Proofs.Qxb6612365a
