/-
  Seat b6609338a: zzNeuron and ZZnewNeuron: each lays a neuron of 22 cells in new memory; what it holds is forgotten here (Init writes all of it).
-/
import Derived.Test.Qxb6609338aInit
namespace Go.Proofs.Qxb6609338a
open Go.RowKit

theorem heap_last_at (w : World) (o : Obj) (g : Nat) (hg : g = w.heap.size) : (w.alloc o).heap[g]? = some o := by
  subst hg; exact heap_alloc_last w o

set_option maxHeartbeats 400000 in
set_option maxRecDepth 100000 in
theorem newNeuron_any (A : Array Value) (n : Int) (w : World) (hA : A.size = 22) :
    Calls Try.prog 14 #[.agg A, .int .i64 n] w fun e w' => e = .returned (.pointer (some ⟨w.heap.size, 0, none⟩)) ∧ ∃ A' : Array Value, A'.size = 22 ∧ w' = w.alloc (.cells A' 34) := by
  have hc : (w.alloc (.cells A 34)).cell? ⟨w.heap.size, 21, none⟩ = some (A[21]'(by omega)) := by
    rw [cell_of_row _ _ 21 A 34 (0, 0) (heap_alloc_last w _)]
    exact Array.getElem?_eq_getElem (by omega)
  go_enter Try.func14, Try.ntmps14
  go_wp2
  go_ret
  exact ⟨rfl, A.setIfInBounds 21 (.int .i64 n), by simpa using hA, rfl⟩

/-- 'build' of a struct, its contents forgotten. -/
theorem wpList_build_any {P : Program} {ops : Array Oper} {rest : List Oper} {o : Oper} {a : Act} {w : World} {Q : Exit → Act → World → Prop} (hg : o.guard = none) (t : TypeId) (parts : Array (Nat × Operand)) (ho : o.op = .build t parts)
    (N : Nat) (hf : ∃ cs : Array Value, P.built t (parts.toList.map fun p => (p.1, a.eval p.2)) = some cs ∧ cs.size = N ∧ cs.all (·.oneCell') = true)
    (h : ∀ cs : Array Value, cs.size = N → cs.all (·.oneCell') = true → wpList P ops Q rest (a.put o.dst (.agg cs)) w) : wpList P ops Q (o :: rest) a w := by
  obtain ⟨cs, hb, hs, h1⟩ := hf
  have hb' : P.built t (parts.map fun (i, x) => (i, a.eval x)).toList = some cs := by simpa using hb
  exact wpList_build hg t parts ho (by rw [hb']; rfl) (by rw [hb']; exact h cs hs h1)

/-- The store of a struct into the block that was made last. -/
theorem wpList_store_new {P : Program} {ops : Array Oper} {rest : List Oper} {o : Oper} {a : Act} {w : World} {Q : Exit → Act → World → Prop} (hgd : o.guard = none) (ty : TypeId) (x y : Operand) (ho : o.op = .store ty x y)
    (g : Nat) (c c' : Array Value) (t : TypeId) (hx : a.eval x = .pointer (some ⟨g, 0, none⟩)) (hy : a.eval y = .agg c') (hg : g = w.heap.size)
    (n : Nat) (hi : (P.info? ty).map (·.size) = some n) (hn : c.size = n) (hn' : c'.size = n) (h1 : c'.all (·.oneCell') = true)
    (h : wpList P ops Q rest (a.put o.dst undef) (w.alloc (.cells c' t))) : wpList P ops Q (o :: rest) a (w.alloc (.cells c t)) := by
  subst hg
  refine wpList_store_row hgd ty x y ho _ c' hx hy t c (heap_alloc_last w _) (by rw [hi, hn']) (by rw [hn, hn']) h1 ?_
  rw [World.setRow_alloc_new]
  exact h

theorem oneB (x0 : Nat) (x1 : Nat) (x2 : Bool) (x3 : Int) (x4 : Nat) (x5 : Nat) (x6 : Nat) (x7 : Nat) (x8 : Nat) (x9 : Nat) (x10 : Nat) (x11 : Nat) (x12 : Nat) (x13 : Nat) (x14 : Nat) (x15 : Nat) (x16 : Nat) (x17 : Nat) (x18 : Nat) (x19 : Nat) (x20 : Nat) : (#[.float .f64 x0, .float .f64 x1, .bool x2, .int .i64 x3, .float .f64 x4, .float .f64 x5, .float .f64 x6, .float .f64 x7, .float .f64 x8, .float .f64 x9, .float .f64 x10, .float .f64 x11, .float .f64 x12, .float .f64 x13, .float .f64 x14, .float .f64 x15, .float .f64 x16, .float .f64 x17, .float .f64 x18, .float .f64 x19, .float .f64 x20, .int .i64 0] : Array Value).all (·.oneCell') = true := by simp [Value.oneCell']

set_option maxHeartbeats 1000000 in
set_option maxRecDepth 100000 in
theorem neuron_core (B : Array Value) (x0 : Nat) (x1 : Nat) (x2 : Bool) (x3 : Int) (x4 : Nat) (x5 : Nat) (x6 : Nat) (x7 : Nat) (x8 : Nat) (x9 : Nat) (x10 : Nat) (x11 : Nat) (x12 : Nat) (x13 : Nat) (x14 : Nat) (x15 : Nat) (x16 : Nat) (x17 : Nat) (x18 : Nat) (x19 : Nat) (x20 : Nat) (x21 : Int) (w : World)
    (e0 : B[0]? = some (.float .f64 x0))
    (e1 : B[1]? = some (.float .f64 x1))
    (e2 : B[2]? = some (.bool x2))
    (e3 : B[3]? = some (.int .i64 x3))
    (e4 : B[4]? = some (.float .f64 x4))
    (e5 : B[5]? = some (.float .f64 x5))
    (e6 : B[6]? = some (.float .f64 x6))
    (e7 : B[7]? = some (.float .f64 x7))
    (e8 : B[8]? = some (.float .f64 x8))
    (e9 : B[9]? = some (.float .f64 x9))
    (e10 : B[10]? = some (.float .f64 x10))
    (e11 : B[11]? = some (.float .f64 x11))
    (e12 : B[12]? = some (.float .f64 x12))
    (e13 : B[13]? = some (.float .f64 x13))
    (e14 : B[14]? = some (.float .f64 x14))
    (e15 : B[15]? = some (.float .f64 x15))
    (e16 : B[16]? = some (.float .f64 x16))
    (e17 : B[17]? = some (.float .f64 x17))
    (e18 : B[18]? = some (.float .f64 x18))
    (e19 : B[19]? = some (.float .f64 x19))
    (e20 : B[20]? = some (.float .f64 x20))
    (e21 : B[21]? = some (.int .i64 x21)) :
    Calls Try.prog 5 #[.agg B] w fun e w' => ∃ g A, e = .returned (.pointer (some ⟨g, 0, none⟩)) ∧ w.heap.size ≤ g ∧ A.size = 22 ∧ w'.heap[g]? = some (.cells A 34 (0, 0)) ∧ Below w.heap.size w w' := by
  go_enter Try.func5, Try.ntmps5
  go_wp2_with (first | (refine wpList_build_any rfl 34 _ rfl 22 ⟨#[.float .f64 x0, .float .f64 x1, .bool x2, .int .i64 x3, .float .f64 x4, .float .f64 x5, .float .f64 x6, .float .f64 x7, .float .f64 x8, .float .f64 x9, .float .f64 x10, .float .f64 x11, .float .f64 x12, .float .f64 x13, .float .f64 x14, .float .f64 x15, .float .f64 x16, .float .f64 x17, .float .f64 x18, .float .f64 x19, .float .f64 x20, .int .i64 0], by kernel_rfl, rfl, oneB x0 x1 x2 x3 x4 x5 x6 x7 x8 x9 x10 x11 x12 x13 x14 x15 x16 x17 x18 x19 x20⟩ ?_; intro A hA hA1) | (refine wpList_store_new rfl 34 _ _ rfl _ _ _ _ rfl rfl (by simp) 22 info34 rfl hA hA1 ?_) | (refine wpList_load_row rfl 34 _ rfl _ rfl 34 _ (0, 0) _ (heap_last_at _ _ _ (by simp)) Try.underlying34 rfl (by rw [hA]; exact info34) ?_) | (go_at_call 14; refine (newNeuron_any A _ _ hA).mono ?_; rintro e w' ⟨rfl, A', hA', rfl⟩))
  go_ret
  refine ⟨w.heap.size + 2, A', rfl, by omega, hA', heap_last_at _ _ _ (by simp), ?_⟩
  exact (((Below.refl _ _).alloc (Nat.le_refl _) _).alloc (by simp) _).alloc (by simp; omega) _

/-- The 22 cells of a NeuronIn: which kind each is. -/
structure NeuronIs (B : Array Value) : Prop where
  floats : ∀ i : Nat, (decide (i < 21) && i != 2 && i != 3) = true → ∃ x : Nat, B[i]? = some (.float .f64 x)
  bools : ∀ i : Nat, (i == 2) = true → ∃ x : Bool, B[i]? = some (.bool x)
  ints : ∀ i : Nat, (i == 3 || i == 21) = true → ∃ x : Int, B[i]? = some (.int .i64 x)
theorem neuron_any (B : Array Value) (h : NeuronIs B) (w : World) :
    Calls Try.prog 5 #[.agg B] w fun e w' => ∃ g A, e = .returned (.pointer (some ⟨g, 0, none⟩)) ∧ w.heap.size ≤ g ∧ A.size = 22 ∧ w'.heap[g]? = some (.cells A 34 (0, 0)) ∧ Below w.heap.size w w' := by
  obtain ⟨x0, e0⟩ := h.floats 0 rfl
  obtain ⟨x1, e1⟩ := h.floats 1 rfl
  obtain ⟨x2, e2⟩ := h.bools 2 rfl
  obtain ⟨x3, e3⟩ := h.ints 3 rfl
  obtain ⟨x4, e4⟩ := h.floats 4 rfl
  obtain ⟨x5, e5⟩ := h.floats 5 rfl
  obtain ⟨x6, e6⟩ := h.floats 6 rfl
  obtain ⟨x7, e7⟩ := h.floats 7 rfl
  obtain ⟨x8, e8⟩ := h.floats 8 rfl
  obtain ⟨x9, e9⟩ := h.floats 9 rfl
  obtain ⟨x10, e10⟩ := h.floats 10 rfl
  obtain ⟨x11, e11⟩ := h.floats 11 rfl
  obtain ⟨x12, e12⟩ := h.floats 12 rfl
  obtain ⟨x13, e13⟩ := h.floats 13 rfl
  obtain ⟨x14, e14⟩ := h.floats 14 rfl
  obtain ⟨x15, e15⟩ := h.floats 15 rfl
  obtain ⟨x16, e16⟩ := h.floats 16 rfl
  obtain ⟨x17, e17⟩ := h.floats 17 rfl
  obtain ⟨x18, e18⟩ := h.floats 18 rfl
  obtain ⟨x19, e19⟩ := h.floats 19 rfl
  obtain ⟨x20, e20⟩ := h.floats 20 rfl
  obtain ⟨x21, e21⟩ := h.ints 21 rfl
  exact neuron_core B x0 x1 x2 x3 x4 x5 x6 x7 x8 x9 x10 x11 x12 x13 x14 x15 x16 x17 x18 x19 x20 x21 w e0 e1 e2 e3 e4 e5 e6 e7 e8 e9 e10 e11 e12 e13 e14 e15 e16 e17 e18 e19 e20 e21
end Go.Proofs.Qxb6609338a
