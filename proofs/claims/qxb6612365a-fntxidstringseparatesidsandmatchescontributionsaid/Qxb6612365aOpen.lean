/-
  Seat b6612365a: an argument that is an array of 32 bytes, opened and handed back.
-/
import Derived.Test.Qxb6612365aWalks
import Derived.ProofKit
import Derived.OpenShut
import Derived.Carry
namespace Go.Proofs.Qxb6612365a
open Go.ChangeShapes Go.WideShapes Go.ChangeAt Go.RowKit

theorem own : ownKnob Try.prog.godebug = none := by kernel_rfl
theorem laidOut : laidOutB Try.prog = true := by kernel_rfl
theorem cells22 : Try.prog.cellsOf 22 = 32 := by kernel_rfl
theorem cells5' : Try.prog.cellsOf 5 = 1 := by kernel_rfl
/-- The witness's array: 32 zeros. -/
def zero32 : Value := .agg #[.int .u8 0, .int .u8 0, .int .u8 0, .int .u8 0, .int .u8 0, .int .u8 0, .int .u8 0, .int .u8 0, .int .u8 0, .int .u8 0, .int .u8 0, .int .u8 0, .int .u8 0, .int .u8 0, .int .u8 0, .int .u8 0,
  .int .u8 0, .int .u8 0, .int .u8 0, .int .u8 0, .int .u8 0, .int .u8 0, .int .u8 0, .int .u8 0, .int .u8 0, .int .u8 0, .int .u8 0, .int .u8 0, .int .u8 0, .int .u8 0, .int .u8 0, .int .u8 0]

theorem open_bytes {H : Type} {enc : TypeId × Value → H} {W : World} {b0 base : Nat} {r : Reach} {spare : Nat → Bool} {held : Bool} {v : Value} {d : DataW H} {p : List MemPlace}
    (hv : Value.okWide Try.prog W r b0 22 v) (h : DataW.Trod enc Try.prog W base spare held 22 v d p) : ∃ l : List UInt8, l.length = 32 ∧ v = .agg (cellsOf l) := by
  obtain ⟨cs, rfl, hsz⟩ : ∃ cs, v = .agg cs ∧ cs.size = Try.prog.cellsOf 22 := by
    simp only [Value.okWide, Try.underlying22] at hv
    obtain ⟨cs, h1, h2, _⟩ := hv
    exact ⟨cs, h1, h2⟩
  rw [cells22] at hsz
  obtain ⟨fuel, hf⟩ := h
  obtain ⟨xs, m, _, _, _, hxl, hel⟩ := DataW.trod_array Try.underlying22 hf
  rw [cells5'] at hel
  have hcell : ∀ i, i < 32 → ∃ b : UInt8, cs[i]? = some (.int .u8 (b.toNat : Int)) := by
    intro i hi
    have he := hel i hi
    rw [List.getElem?_eq_getElem (by omega)] at he
    obtain ⟨n, e1, _, wn⟩ := DataW.trod_int Try.underlying5 he
    have hb := bounds_u8 wn
    refine ⟨UInt8.ofNat n.toNat, ?_⟩
    have e2 := congrArg (·[0]?) e1
    simp [Value.cells] at e2
    rw [e2]
    simp only [UInt8.toNat_ofNat']
    congr 2
    omega
  refine ⟨(List.range 32).map fun i => ((cs[i]?).map fun c => match c with | .int _ n => UInt8.ofNat n.toNat | _ => 0).getD 0, by simp, ?_⟩
  congr 1
  apply Array.ext_getElem?
  intro i
  by_cases hi : i < 32
  · obtain ⟨b, hb⟩ := hcell i hi
    rw [cellsOf_at _ i (by simpa using hi), hb]
    simp [hb]
  · rw [Array.getElem?_eq_none (by omega), Array.getElem?_eq_none (by rw [cellsOf_size]; simp; omega)]

theorem bytes_later {H : Type} {enc : TypeId × Value → H} {W W' : World} {v : Value} {d : DataW H} {ps : List MemPlace}
    (h : DataW.Trod enc Try.prog W 0 (fun _ => true) true 22 v d ps) (hb : Below W.heap.size W W') (hlt : ∀ x ∈ ps, x.block < W.heap.size) :
    DataW.Trod enc Try.prog W' 0 (fun b => decide (b < W.heap.size)) true 22 v d ps :=
  Below.trod laidOut (by kernel_rfl) (of_decide_eq_true (by kernel_rfl)) h hb hlt
end Go.Proofs.Qxb6612365a
