/-
  Seat b6612365a: the plain laws on texts: order and equality of the digits are those of the bytes; no Go in sight, but for the names of the walks.
-/
import Derived.Test.Qxb6612365aCompare
namespace Go.Proofs.Qxb6612365a
open Go.RowKit

theorem digit_less_fin : ∀ a : Fin 16, ∀ b : Fin 16, ((Lib.Hx.digit a.val).toNat < (Lib.Hx.digit b.val).toNat ↔ a.val < b.val) ∧ ((Lib.Hx.digit a.val) = (Lib.Hx.digit b.val) ↔ a.val = b.val) := by decide +kernel
theorem digit_less {a b : Nat} (ha : a < 16) (hb : b < 16) : ((Lib.Hx.digit a).toNat < (Lib.Hx.digit b).toNat ↔ a < b) := (digit_less_fin ⟨a, ha⟩ ⟨b, hb⟩).1
theorem digit_inj {a b : Nat} (ha : a < 16) (hb : b < 16) : (Lib.Hx.digit a = Lib.Hx.digit b ↔ a = b) := (digit_less_fin ⟨a, ha⟩ ⟨b, hb⟩).2

/-- The texts compare as the bytes do. -/
theorem cmp_encode : ∀ (x y : List UInt8), x.length = y.length → cmpI (Lib.Hx.encode x) (Lib.Hx.encode y) = cmpI x y
  | [], [], _ => rfl
  | a :: x, b :: y, h => by
    have ih := cmp_encode x y (by simpa using h)
    have la := a.toNat_lt
    have lb := b.toNat_lt
    rw [Lib.Hx.encode_cons, Lib.Hx.encode_cons]
    simp only [cmpI, ih, digit_less (show a.toNat / 16 < 16 by omega) (show b.toNat / 16 < 16 by omega), digit_less (show b.toNat / 16 < 16 by omega) (show a.toNat / 16 < 16 by omega),
      digit_less (show a.toNat % 16 < 16 by omega) (show b.toNat % 16 < 16 by omega), digit_less (show b.toNat % 16 < 16 by omega) (show a.toNat % 16 < 16 by omega)]
    (repeat' split) <;> first | rfl | omega
theorem encode_inj : ∀ (x y : List UInt8), Lib.Hx.encode x = Lib.Hx.encode y ↔ x = y
  | [], [] => by simp
  | [], b :: y => by
    rw [Lib.Hx.encode_cons]
    constructor
    · intro h
      have e : Lib.Hx.encode [] = [] := rfl
      rw [e] at h
      cases h
    · intro h
      cases h
  | a :: x, [] => by
    rw [Lib.Hx.encode_cons]
    constructor
    · intro h
      have e : Lib.Hx.encode [] = [] := rfl
      rw [e] at h
      cases h
    · intro h
      cases h
  | a :: x, b :: y => by
    have ih := encode_inj x y
    have la := a.toNat_lt
    have lb := b.toNat_lt
    rw [Lib.Hx.encode_cons, Lib.Hx.encode_cons]
    simp only [List.cons.injEq, ih, digit_inj (show a.toNat / 16 < 16 by omega) (show b.toNat / 16 < 16 by omega), digit_inj (show a.toNat % 16 < 16 by omega) (show b.toNat % 16 < 16 by omega), ← UInt8.toNat_inj]
    constructor
    · rintro ⟨h1, h2, h3⟩; exact ⟨by omega, h3⟩
    · rintro ⟨h1, h2⟩; exact ⟨by omega, by omega, h2⟩
theorem enc_dig {l : List UInt8} {i : Nat} (h : i < 2 * l.length) : ∃ v, Dig (((Lib.Hx.encode l).getD i 0).toNat : Int) v := by
  have hk : i / 2 < l.length := by omega
  rcases Nat.mod_two_eq_zero_or_one i with h2 | h2
  · have e := enc_hi hk
    rw [show 2 * (i / 2) = i by omega] at e
    rw [e]
    exact ⟨_, dig_hi _⟩
  · have e := enc_lo hk
    rw [show 2 * (i / 2) + 1 = i by omega] at e
    rw [e]
    exact ⟨_, dig_lo _⟩
theorem lower_hexS (l : List UInt8) (hl : l.length = 32) : Lower (hexS l) := by
  intro i hi
  have hs := hexS_size l hl
  have he : (hexS l)[i]'hi = (Lib.Hx.encode l).getD i 0 := by
    have h2 : i < (Lib.Hx.encode l).length := by rw [Lib.Hx.encode_length, hl]; omega
    simp [h2]
    rfl
  rw [he]
  exact enc_dig (by omega)

/-! ### Two arrays of bytes compared by '==' -/
theorem cells5 : Try.prog.cellsOf 5 = 1 := by kernel_rfl
theorem plain5 : Try.prog.plainKey 5 = true := by kernel_rfl
theorem items_eq (d : Nat) (x y : List UInt8) (w : World) : ∀ is : List Nat, (∀ i ∈ is, i < x.length ∧ i < y.length) →
    (Op.eqItems (d + 1) 5 1 (cellsOf x) (cellsOf y) is).run Try.prog w = .ok (is.all fun i => x.getD i 0 == y.getD i 0) w
  | [], _ => by simp [Op.eqItems]
  | i :: is, h => by
    obtain ⟨h1, h2⟩ := h i (by simp)
    have ih := items_eq d x y w is (fun j hj => h j (by simp [hj]))
    have p1 := run_part_plain (P := Try.prog) w plain5 (off := i * 1) (by rw [Nat.mul_one]; exact cellsOf_at x i h1)
    have p2 := run_part_plain (P := Try.prog) w plain5 (off := i * 1) (by rw [Nat.mul_one]; exact cellsOf_at y i h2)
    have p3 := run_equalIn_int (P := Try.prog) w d 5 .u8 .u8 (x[i].toNat : Int) (y[i].toNat : Int) Try.underlying5
    have e : ((x[i].toNat : Int) == (y[i].toNat : Int)) = (x.getD i 0 == y.getD i 0) := by
      rw [Bool.eq_iff_iff]; simp [h1, h2, ← UInt8.toNat_inj]; omega
    simp only [Op.eqItems, Sem.run_bind, p1, p2, p3, Result.andThen_ok, e, List.all_cons]
    cases (x.getD i 0 == y.getD i 0)
    · simp
    · simpa using ih
theorem all_eq {x y : List UInt8} (hx : x.length = 32) (hy : y.length = 32) : ((List.range 32).all fun i => x.getD i 0 == y.getD i 0) = decide (x = y) := by
  rw [Bool.eq_iff_iff, List.all_eq_true, decide_eq_true_eq]
  constructor
  · intro h
    apply List.ext_getElem (by omega)
    intro i h1 h2
    have := h i (by simp; omega)
    simpa [h1, h2] using this
  · rintro rfl i _; simp
theorem arrays_eq {x y : List UInt8} (hx : x.length = 32) (hy : y.length = 32) (w : World) :
    (Op.equalIn 10000 22 (.agg (cellsOf x)) (.agg (cellsOf y))).run Try.prog w = .ok (decide (x = y)) w := by
  obtain ⟨i, hi⟩ : ∃ i, Try.prog.info? 5 = some i := Option.isSome_iff_exists.1 (show (Try.prog.info? 5).isSome = true by kernel_rfl)
  have h := run_equalIn_array (P := Try.prog) w 9999 (cellsOf x) (cellsOf y) Try.underlying22 hi
  rw [cells5, items_eq 9998 x y w (List.range 32) (fun j hj => by simp at hj; omega), all_eq hx hy] at h
  exact h
end Go.Proofs.Qxb6612365a
