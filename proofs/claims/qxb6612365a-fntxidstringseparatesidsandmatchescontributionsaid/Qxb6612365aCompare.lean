/-
  Seat b6612365a: compareBytes and isLowerHex64, walked.
-/
import Derived.Test.Qxb6612365aDecodes
import Derived.Deep.QuietTactic
import Derived.BigQuiet
namespace Go.Proofs.Qxb6612365a
open Go.RowKit

theorem ret_int {k : IntKind} {a b : Int} (h : a = b) : Ending.returned (.int k a) = .returned (.int k b) := by rw [h]
/-- 'compareBytes' on two lists of one length. -/
def cmpI : List UInt8 → List UInt8 → Int
  | a :: x, b :: y => if a.toNat < b.toNat then -1 else if b.toNat < a.toNat then 1 else cmpI x y
  | _, _ => 0
theorem cmp_at : ∀ (k : Nat) (la lb : List UInt8) (ha : k < la.length) (hb : k < lb.length), la.take k = lb.take k →
    ((la[k]'ha).toNat < (lb[k]'hb).toNat → cmpI la lb = -1) ∧ ((lb[k]'hb).toNat < (la[k]'ha).toNat → cmpI la lb = 1)
  | 0, a :: x, b :: y, _, _, _ => by
    simp only [List.getElem_cons_zero, cmpI]
    exact ⟨fun h => by rw [if_pos h], fun h => by rw [if_neg (by omega), if_pos h]⟩
  | k + 1, a :: x, b :: y, ha, hb, h => by
    simp only [List.take_succ_cons, List.cons.injEq] at h
    obtain ⟨rfl, h⟩ := h
    simp only [List.getElem_cons_succ, cmpI, Nat.lt_irrefl, if_false]
    exact cmp_at k x y (by simpa using ha) (by simpa using hb) h
theorem cmp_self (l : List UInt8) : cmpI l l = 0 := by
  induction l with
  | nil => rfl
  | cons a x ih => simp [cmpI, ih]
theorem take_next {la lb : List UInt8} {k : Nat} (ha : k < la.length) (hb : k < lb.length) (h : la.take k = lb.take k) (e : (la[k]'ha).toNat = (lb[k]'hb).toNat) : la.take (k + 1) = lb.take (k + 1) := by
  rw [List.take_succ_eq_append_getElem ha, List.take_succ_eq_append_getElem hb, h, UInt8.toNat_inj.1 e]

set_option maxHeartbeats 1000000 in
theorem cmp_any (n ga gb ca cb : Nat) (la lb : List UInt8) (w : World) (hn : n ≤ 64) (hla : la.length = n) (hlb : lb.length = n)
    (hca : ∀ i (h : i < la.length), w.cell? ⟨ga, i, none⟩ = some (.int .u8 ((la[i]'h).toNat : Int))) (hcb : ∀ i (h : i < lb.length), w.cell? ⟨gb, i, none⟩ = some (.int .u8 ((lb[i]'h).toNat : Int))) :
    Calls Try.prog 8 #[.slice (some ⟨ga, 0, none⟩) n ca, .slice (some ⟨gb, 0, none⟩) n cb] w fun e w' => e = .returned (.int .i64 (cmpI la lb)) ∧ ∃ m, w' = w.drewN m := by
  have HA : Hid (la.length = n) := hla
  have HB : Hid (lb.length = n) := hlb
  have CA : Hid (∀ i (h : i < la.length), w.cell? ⟨ga, i, none⟩ = some (.int .u8 ((la[i]'h).toNat : Int))) := hca
  have CB : Hid (∀ i (h : i < lb.length), w.cell? ⟨gb, i, none⟩ = some (.int .u8 ((lb[i]'h).toNat : Int))) := hcb
  clear hla hlb hca hcb
  go_enter Try.func8, Try.ntmps8
  go_wp2
  go_loopw [6] (fun i wr => ∃ k m : Nat, k ≤ n ∧ i = .int .i64 k ∧ Hid (la.take k = lb.take k) ∧ wr = w.drewN m) (fun i _ => n - (intOf i).toNat)
  case atStart => exact ⟨0, 0, by omega, rfl, by simp [Hid], rfl⟩
  case round =>
    obtain ⟨k, m, hk, rfl, HT, rfl⟩ := hrel
    by_cases hlt : k < n
    · have ka : k < la.length := by rw [HA.out]; exact hlt
      have kb : k < lb.length := by rw [HB.out]; exact hlt
      obtain ⟨a, ha⟩ : ∃ a : Int, a = ((la[k]'ka).toNat : Int) := ⟨_, rfl⟩
      obtain ⟨b, hb⟩ : ∃ b : Int, b = ((lb[k]'kb).toNat : Int) := ⟨_, rfl⟩
      have ta := CA.out k ka
      rw [← ha] at ta
      have tb := CB.out k kb
      rw [← hb] at tb
      have EA := (show Hid (a = ((la[k]'ka).toNat : Int)) from ha)
      have EB := (show Hid (b = ((lb[k]'kb).toNat : Int)) from hb)
      clear ha hb
      by_cases h1 : a < b
      · go_wp2
        go_quiet (fail)
        go_wp2
        go_ret
        exact ⟨ret_int ((cmp_at k la lb ka kb HT.out).1 (by have e1 := EA.out; have e2 := EB.out; omega)).symm, m + nq, World.drewN_drewN _ _ _⟩
      · by_cases h2 : b < a
        · go_wp2
          go_quiet (fail)
          go_wp2
          go_quiet (fail)
          go_wp2
          go_ret
          exact ⟨ret_int ((cmp_at k la lb ka kb HT.out).2 (by have e1 := EA.out; have e2 := EB.out; omega)).symm, _, by rw [World.drewN_drewN, World.drewN_drewN]⟩
        · go_wp2
          go_quiet (fail)
          go_wp2
          go_quiet (fail)
          go_wp2
          go_roundw
          case rel => exact ⟨k + 1, _, by omega, by go_num, take_next ka kb HT.out (by have e1 := EA.out; have e2 := EB.out; omega), rfl⟩
          case measure => simp [intOf]; omega
    · have hkn : k = n := by omega
      have hc : cmpI la lb = 0 := by
        have e1 := HT.out
        rw [List.take_of_length_le (by rw [HA.out]; omega), List.take_of_length_le (by rw [HB.out]; omega)] at e1
        rw [e1, cmp_self]
      have HC : Hid (cmpI la lb = 0) := hc
      clear hc hkn
      go_wp2
      go_ret
      exact ⟨ret_int HC.out.symm, m, rfl⟩

/-- Every byte of the string is a lower-case digit. -/
def Lower (s : ByteArray) : Prop := ∀ i (h : i < s.size), ∃ v, Dig ((s[i]'h).toNat : Int) v

set_option maxHeartbeats 1000000 in
theorem lower_any (s : ByteArray) (w : World) (hs : s.size = 64) (hd : Lower s) :
    Calls Try.prog 10 #[.string s] w fun e w' => e = .returned (.bool true) ∧ w' = w := by
  have HS : Hid (s.size = 64) := hs
  have HD : Hid (Lower s) := hd
  have hne : ((s.size : Int) != 64) = false := by rw [hs]; rfl
  clear hs hd
  go_enter Try.func10, Try.ntmps10
  go_wp2
  go_loop [3] (fun i => ∃ k : Nat, k ≤ 64 ∧ i = .int .i64 k) (fun i => 64 - (intOf i).toNat)
  case atStart => exact ⟨0, by omega, rfl⟩
  case round =>
    obtain ⟨k, hk, rfl⟩ := hrel
    by_cases hlt : k < 64
    · have hks : k < s.size := by rw [HS.out]; exact hlt
      obtain ⟨v, hv⟩ := HD.out k hks
      have hb := hv.bd
      have HV : Hid (Dig ((s[k]'hks).toNat : Int) v) := hv
      clear hv
      go_wp2_with (go_at_call 7; refine (hexv_any _ v _ HV.out).mono ?_; rintro e w' ⟨rfl, rfl⟩)
      go_round
      case rel => exact ⟨k + 1, by omega, by go_num⟩
      case measure => simp [intOf]; omega
    · go_wp2
      go_ret
      exact ⟨rfl, rfl⟩
end Go.Proofs.Qxb6612365a
