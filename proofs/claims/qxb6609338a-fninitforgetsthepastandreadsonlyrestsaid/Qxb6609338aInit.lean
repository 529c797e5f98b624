/-
  Seat b6609338a: (*NeuronParams).Init: what it does: the neuron's 22 cells are the starting state, nothing else turns.
-/
import Derived.Test.Qxb6609338aRows
import Derived.WalkKit
import Derived.WalkSpells
import Derived.WalkLawsBesides
import Derived.StillTailTactics
import Derived.Laws.Rows
import Derived.Deep.WholeRow
namespace Go.Proofs.Qxb6609338a
open Go.RowKit

theorem info34 : (Try.prog.info? 34).map (·.size) = some 22 := by kernel_rfl

def fresh (x : Nat) : Array Value := #[.float .f64 x, .float .f64 x, .bool false, .int .i64 (-1), .float .f64 13830554455654793216, .float .f64 0, .float .f64 0, .float .f64 0, .float .f64 0, .float .f64 0, .float .f64 0,
  .float .f64 0, .float .f64 0, .float .f64 0, .float .f64 0, .float .f64 0, .float .f64 0, .float .f64 0, .float .f64 0, .float .f64 0, .float .f64 0, .int .i64 0]
theorem fresh_one (x : Nat) : (fresh x).all (·.oneCell') = true := by simp [fresh, Value.oneCell']

theorem region_tail {P : Program} {id : Nat} {Q : Exit → Act → World → Prop} {a : Act} {w : World} {l : List Oper} (n : Nat) (hm : P.follows .mixedOrders = true) (hB : Region.lexTailB .any l.toArray n = true)
    (h : wpStill P l.toArray w.drew (fun a' => wpList P l.toArray Q (l.drop n) a' w.drew) (l.take n) a) : (Code.region id l.toArray true).wp P Q a w :=
  wp_region_still_tail n hm hB h

set_option maxHeartbeats 400000 in
set_option maxRecDepth 100000 in
theorem init_any (b g x : Nat) (A : Array Value) (w : World) (h : w.cell? ⟨b, 6, none⟩ = some (.float .f64 x)) (hg : w.heap[g]? = some (.cells A 34 (0, 0))) (hA : A.size = 22) :
    Calls Try.prog 6 #[.pointer (some ⟨b, 0, none⟩), .pointer (some ⟨g, 0, none⟩)] w fun e w' => e = .returned (.tuple #[]) ∧ w' = w.drew.setRow g (fresh x) := by
  go_enter Try.func6, Try.ntmps6
  go_wp2
  refine region_tail 11 (by kernel_rfl) (by kernel_rfl) ?_
  simp only [List.take_succ_cons, List.take_zero, List.drop_succ_cons, List.drop_zero]
  repeat still_step
  refine wpStill_nil ?_
  refine wpList_store_row rfl 34 _ _ rfl g (fresh x) rfl rfl 34 A hg info34 hA (fresh_one x) ?_
  go_wp2
  go_end0
  exact ⟨rfl, rfl⟩

/-- Nothing but block g turns. -/
structure OnlyAt (g : Nat) (w w' : World) : Prop where
  os : w'.os = w.os
  tape : w'.tape = w.tape
  output : w'.output = w.output
  size : w'.heap.size = w.heap.size
  block : ∀ k, k ≠ g → w'.heap[k]? = w.heap[k]?

theorem onlyAt_row (w : World) (g : Nat) (cs : Array Value) : OnlyAt g w (w.drew.setRow g cs) where
  os := rfl
  tape := rfl
  output := rfl
  size := by simp [World.setRow, World.drew, -World.drew_eq]
  block := fun k hk => by
    have h : ¬ g = k := fun e => hk e.symm
    simp [World.setRow, World.drew, -World.drew_eq, Array.getElem?_modify, h]
theorem OnlyAt.below {g B : Nat} {w w' : World} (h : OnlyAt g w w') (hB : B ≤ g) : Below B w w' :=
  ⟨h.os, h.tape, h.output, by rw [h.size]; exact Nat.le_refl _, fun k hk => h.block k (by omega)⟩

theorem init_only (b g x : Nat) (A : Array Value) (w : World) (h : w.cell? ⟨b, 6, none⟩ = some (.float .f64 x)) (hg : w.heap[g]? = some (.cells A 34 (0, 0))) (hA : A.size = 22) :
    Calls Try.prog 6 #[.pointer (some ⟨b, 0, none⟩), .pointer (some ⟨g, 0, none⟩)] w fun e w' => e = .returned (.tuple #[]) ∧ w'.heap[g]? = some (.cells (fresh x) 34 (0, 0)) ∧ OnlyAt g w w' := by
  refine (init_any b g x A w h hg hA).mono ?_
  rintro e w' ⟨rfl, rfl⟩
  exact ⟨rfl, setRow_heap w.drew g A _ 34 (0, 0) hg, onlyAt_row w g _⟩
end Go.Proofs.Qxb6609338a
