/-
  Seat b6612332aF: the two laws, walked, fmt's text told.
-/
import Derived.Test.Qxb6612332aFmtWalks
namespace Go.Proofs.Qxb6612332aFmt
open Go.RowKit Go.Extern.Stop Go.Stop Go.Extern Go.Kit

/-! ### The plain laws: no Go in sight -/
theorem mdS_list (m d : Int) : (mdS m d).toList = md m d := by rw [ByteArray.toList_eq]; rfl
theorem cat_eq (m d : Int) : ((mdS m d).toList == (({ data := (two m).toArray } : ByteArray) ++ { data := #[45] } ++ { data := (two d).toArray }).toList) = true := by
  rw [mdS_list, ByteArray.toList_eq]
  simp [md]
theorem u8_beq {x y : Nat} (hx : x < 256) (hy : y < 256) : (UInt8.ofNat x == UInt8.ofNat y) = decide (x = y) := by
  rw [Bool.eq_iff_iff]
  simp only [beq_iff_eq, decide_eq_true_eq, ← UInt8.toNat_inj, UInt8.toNat_ofNat']
  omega
theorem u8_less {x y : Nat} (hx : x < 256) (hy : y < 256) : decide (UInt8.ofNat x < UInt8.ofNat y) = decide (x < y) := by
  rw [Bool.eq_iff_iff]
  simp only [decide_eq_true_eq, UInt8.lt_iff_toNat_lt, UInt8.toNat_ofNat']
  omega
/-- Of two numbers below 100: how their two digits compare, whatever stands behind them. -/
theorem less_two {a b : Int} (s t : List UInt8) (a0 : 0 ≤ a) (a1 : a ≤ 99) (b0 : 0 ≤ b) (b1 : b ≤ 99) :
    Op.bytesLess (two a ++ s) (two b ++ t) = (decide (a < b) || (decide (a = b) && Op.bytesLess s t)) := by
  simp only [two, List.cons_append, List.nil_append, Op.bytesLess]
  rw [u8_less (by omega) (by omega), u8_less (by omega) (by omega), u8_beq (by omega) (by omega), u8_beq (by omega) (by omega)]
  cases Op.bytesLess s t <;> rw [Bool.eq_iff_iff] <;> simp <;> omega
theorem less_md {m d m' d' : Int} (hm : 0 ≤ m ∧ m ≤ 99) (hd : 0 ≤ d ∧ d ≤ 99) (hm' : 0 ≤ m' ∧ m' ≤ 99) (hd' : 0 ≤ d' ∧ d' ≤ 99) :
    Op.bytesLess (mdS m d).toList (mdS m' d').toList = (decide (m < m') || (decide (m = m') && decide (d < d'))) := by
  rw [mdS_list, mdS_list]
  unfold md
  rw [List.append_assoc, List.append_assoc, less_two _ _ hm.1 hm.2 hm'.1 hm'.2]
  have h := less_two [] [] hd.1 hd.2 hd'.1 hd'.2
  simp only [List.append_nil] at h
  simp [Op.bytesLess, h]
theorem two_inj {a b : Int} (a0 : 0 ≤ a) (a1 : a ≤ 99) (b0 : 0 ≤ b) (b1 : b ≤ 99) : two a = two b ↔ a = b := by
  constructor
  · intro h
    simp only [two, List.cons.injEq, ← UInt8.toNat_inj, UInt8.toNat_ofNat'] at h
    omega
  · rintro rfl; rfl
theorem eq_md {m d m' d' : Int} (hm : 0 ≤ m ∧ m ≤ 99) (hd : 0 ≤ d ∧ d ≤ 99) (hm' : 0 ≤ m' ∧ m' ≤ 99) (hd' : 0 ≤ d' ∧ d' ≤ 99) :
    ((mdS m d).toList == (mdS m' d').toList) = (decide (m = m') && decide (d = d')) := by
  rw [mdS_list, mdS_list, Bool.eq_iff_iff]
  have e1 := two_inj hm.1 hm.2 hm'.1 hm'.2
  have e2 := two_inj hd.1 hd.2 hd'.1 hd'.2
  rw [beq_iff_eq, Bool.and_eq_true, decide_eq_true_eq, decide_eq_true_eq, ← e1, ← e2]
  simp [md, two]
  constructor
  · rintro ⟨h1, h2, h3, h4⟩; exact ⟨⟨h1, h2⟩, h3, h4⟩
  · rintro ⟨⟨h1, h2⟩, h3, h4⟩; exact ⟨h1, h2, h3, h4⟩

/-! ### The walks -/
set_option maxHeartbeats 1000000 in
theorem padded_any (F : Interp) (m d : Int) (w : World) (hF : F.told.answers w.tape) :
    Calls Tryf.prog 3 #[.int .i64 m, .int .i64 d] w fun e w' => e = .returned (.bool true) ∧ Below w.heap.size w w' := by
  by_cases h : inP m d
  · have hd := dim_le m
    have H : Hid (inP m d) := h
    obtain ⟨m0, m1, d0, d1⟩ := h
    have HF : Hid (F.told.answers w.tape) := hF
    clear hF
    go_enter Tryf.func3, Tryf.ntmps3
    go_wp2_with (first | (go_at_call 5; refine (in_true _ _ _ H.out).mono ?_; rintro e w' ⟨rfl, rfl⟩) | (go_at_call 6; refine (new_any _ _ _).mono ?_; rintro e w1 ⟨rfl, b1⟩))
    refine (string_told F m d w1 (by rw [b1.tape]; exact HF.out) (by omega) (by omega) (by omega) (by omega)).mono ?_
    rintro e w2 ⟨rfl, b2⟩
    go_wp2_with fail
    refine (two_any m w2 (by omega) (by omega)).mono ?_
    rintro e w3 ⟨rfl, b3⟩
    go_wp2_with fail
    refine (two_any d w3 (by omega) (by omega)).mono ?_
    rintro e w4 ⟨rfl, b4⟩
    go_wp2
    go_ret
    have z1 := b1.size
    have z2 := b2.size
    have z3 := b3.size
    exact ⟨congrArg (fun b => Ending.returned (.bool b)) (cat_eq m d), ((b1.trans (b2.mono (by omega))).trans (b3.mono (by omega))).trans (b4.mono (by omega))⟩
  · go_enter Tryf.func3, Tryf.ntmps3
    go_wp2_with (go_at_call 5; refine (in_false _ _ _ h).mono ?_; rintro e w' ⟨rfl, rfl⟩)
    go_ret
    exact ⟨rfl, Below.refl _ _⟩

theorem ret_true {b : Bool} (h : b = true) : Ending.returned (.bool b) = Ending.returned (.bool true) := by rw [h]
/-- Five ways. -/
def Way (m d m' d' : Int) (before same : Bool) : Prop := (m < m' ∧ before = true ∧ same = false) ∨ (m' < m ∧ before = false ∧ same = false) ∨
  (m = m' ∧ d < d' ∧ before = true ∧ same = false) ∨ (m = m' ∧ d' < d ∧ before = false ∧ same = false) ∨ (m = m' ∧ d = d' ∧ before = false ∧ same = true)
theorem way (m d m' d' : Int) : Way m d m' d' (decide (m < m') || (decide (m = m') && decide (d < d'))) (decide (m = m') && decide (d = d')) := by
  unfold Way
  simp only [Bool.or_eq_true, Bool.and_eq_true, Bool.or_eq_false_iff, Bool.and_eq_false_iff, decide_eq_true_eq, decide_eq_false_iff_not]
  omega

set_option maxHeartbeats 2000000 in
theorem sorts_way (F : Interp) (m d m' d' : Int) (before same : Bool) (w : World) (hF : F.told.answers w.tape) (h : inP m d) (h' : inP m' d') (hw : Way m d m' d' before same)
    (hl : Op.bytesLess (mdS m d).toList (mdS m' d').toList = before) (he : ((mdS m d).toList == (mdS m' d').toList) = same) :
    Calls Tryf.prog 4 #[.int .i64 m, .int .i64 d, .int .i64 m', .int .i64 d'] w fun e w' => e = .returned (.bool true) ∧ Below w.heap.size w w' := by
  have hd := dim_le m
  have hd' := dim_le m'
  have H : Hid (inP m d) := h
  have H' : Hid (inP m' d') := h'
  obtain ⟨m0, m1, d0, d1⟩ := h
  obtain ⟨m0', m1', d0', d1'⟩ := h'
  have HF : Hid (F.told.answers w.tape) := hF
  clear hF
  unfold Way at hw
  rcases hw with ⟨c1, rfl, rfl⟩ | ⟨c1, rfl, rfl⟩ | ⟨rfl, c1, rfl, rfl⟩ | ⟨rfl, c1, rfl, rfl⟩ | ⟨rfl, rfl, rfl, rfl⟩
  all_goals
    go_enter Tryf.func4, Tryf.ntmps4
    go_wp2_with fail
    refine (in_true _ _ _ H.out).mono ?_
    rintro e w0 ⟨rfl, hw0⟩
    subst hw0
    go_wp2_with fail
    refine (in_true _ _ _ H'.out).mono ?_
    rintro e w0 ⟨rfl, hw0⟩
    subst hw0
    go_wp2_with fail
    refine (new_any _ _ _).mono ?_
    rintro e w1 ⟨rfl, b1⟩
    go_wp2_with fail
    refine (string_told F _ _ w1 (by rw [b1.tape]; exact HF.out) (by omega) (by omega) (by omega) (by omega)).mono ?_
    rintro e w2 ⟨rfl, b2⟩
    go_wp2_with fail
    refine (new_any _ _ _).mono ?_
    rintro e w3 ⟨rfl, b3⟩
    go_wp2_with fail
    refine (string_told F _ _ w3 (by rw [b3.tape, b2.tape, b1.tape]; exact HF.out) (by omega) (by omega) (by omega) (by omega)).mono ?_
    rintro e w4 ⟨rfl, b4⟩
    go_wp2
    go_ret
    have z1 := b1.size
    have z2 := b2.size
    have z3 := b3.size
    exact ⟨by first | rfl | exact ret_true (by simp; omega), ((b1.trans (b2.mono (by omega))).trans (b3.mono (by omega))).trans (b4.mono (by omega))⟩

set_option maxHeartbeats 1000000 in
theorem sorts_any (F : Interp) (m d m' d' : Int) (w : World) (hF : F.told.answers w.tape) :
    Calls Tryf.prog 4 #[.int .i64 m, .int .i64 d, .int .i64 m', .int .i64 d'] w fun e w' => e = .returned (.bool true) ∧ Below w.heap.size w w' := by
  by_cases h : inP m d
  · by_cases h' : inP m' d'
    · have hd := dim_le m
      have hd' := dim_le m'
      have h1 := h
      have h1' := h'
      unfold inP at h1 h1'
      exact sorts_way F m d m' d' _ _ w hF h h' (way m d m' d') (less_md ⟨by omega, by omega⟩ ⟨by omega, by omega⟩ ⟨by omega, by omega⟩ ⟨by omega, by omega⟩)
        (eq_md ⟨by omega, by omega⟩ ⟨by omega, by omega⟩ ⟨by omega, by omega⟩ ⟨by omega, by omega⟩)
    · have H : Hid (inP m d) := h
      have H' : Hid (¬ inP m' d') := h'
      clear h h' hF
      go_enter Tryf.func4, Tryf.ntmps4
      go_wp2_with fail
      refine (in_true _ _ _ H.out).mono ?_
      rintro e w0 ⟨rfl, rfl⟩
      go_wp2_with fail
      refine (in_false _ _ _ H'.out).mono ?_
      rintro e w0 ⟨rfl, rfl⟩
      go_wp2
      go_ret
      exact ⟨rfl, Below.refl _ _⟩
  · have H : Hid (¬ inP m d) := h
    clear h hF
    go_enter Tryf.func4, Tryf.ntmps4
    go_wp2_with fail
    refine (in_false _ _ _ H.out).mono ?_
    rintro e w0 ⟨rfl, rfl⟩
    go_wp2
    go_ret
    exact ⟨rfl, Below.refl _ _⟩
end Go.Proofs.Qxb6612332aFmt
