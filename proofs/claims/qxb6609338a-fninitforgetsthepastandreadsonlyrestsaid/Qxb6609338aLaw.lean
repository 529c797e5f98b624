/-
  Seat b6609338a: FnInitForgetsThePastAndReadsOnlyRest, walked.
-/
import Derived.Test.Qxb6609338aNeuron
import Derived.Test.Qxb6609338aSame
import Derived.Lib.SmallJoins
namespace Go.Proofs.Qxb6609338a
open Go.RowKit

theorem info24 : (Try.prog.info? 24).map (·.size) = some 35 := by kernel_rfl
theorem info26 : (Try.prog.info? 26).map (·.size) = some 22 := by kernel_rfl
theorem info27 : (Try.prog.info? 27).map (·.size) = some 35 := by kernel_rfl
/-- The parameters that keep ErevL alone. -/
def rest (x : Nat) : Array Value := #[.float .f64 0, .float .f64 0, .float .f64 0, .float .f64 0, .float .f64 0, .float .f64 0, .float .f64 x, .float .f64 0, .float .f64 0, .float .f64 0, .float .f64 0, .float .f64 0, .float .f64 0, .float .f64 0, .int .i64 0, .float .f64 0, .float .f64 0, .float .f64 0, .float .f64 0, .float .f64 0, .float .f64 0, .float .f64 0, .float .f64 0, .float .f64 0, .float .f64 0, .float .f64 0, .float .f64 0, .float .f64 0, .float .f64 0, .float .f64 0, .float .f64 0, .float .f64 0, .float .f64 0, .float .f64 0, .float .f64 0]
theorem rest_one (x : Nat) : (rest x).all (·.oneCell') = true := by simp [rest, Value.oneCell']
theorem rest_size (x : Nat) : (rest x).size = 35 := rfl
theorem rest_at (x : Nat) : (rest x)[6]? = some (.float .f64 x) := rfl
theorem fresh_at (x : Nat) : (fresh x)[0]? = some (.float .f64 x) := rfl

/-- 'build' of a struct, told. -/
theorem wpList_build_to {P : Program} {ops : Array Oper} {rest : List Oper} {o : Oper} {a : Act} {w : World} {Q : Exit → Act → World → Prop} (hg : o.guard = none) (t : TypeId) (parts : Array (Nat × Operand)) (ho : o.op = .build t parts)
    (cs : Array Value) (hf : P.built t (parts.toList.map fun p => (p.1, a.eval p.2)) = some cs)
    (h : wpList P ops Q rest (a.put o.dst (.agg cs)) w) : wpList P ops Q (o :: rest) a w := by
  have hb' : P.built t (parts.map fun (i, x) => (i, a.eval x)).toList = some cs := by simpa using hf
  exact wpList_build hg t parts ho (by rw [hb']; rfl) (by rw [hb']; exact h)

/-- What the arguments hold, as far as the walk wants it. -/
structure ParamsIs (A : Array Value) (x : Nat) : Prop where
  size : A.size = 35
  one : A.all (·.oneCell') = true
  rest : A[6]? = some (.float .f64 x)

theorem row_later {w w' : World} {B g : Nat} {o : Obj} (hb : Below B w w') (hg : g < B) (h : w.heap[g]? = some o) : w'.heap[g]? = some o := (hb.block g hg).trans h
theorem lt_of_row {w : World} {g : Nat} {o : Obj} (h : w.heap[g]? = some o) : g < w.heap.size := by
  rcases Nat.lt_or_ge g w.heap.size with h' | h'
  · exact h'
  · rw [Array.getElem?_eq_none h'] at h; cases h

/-- Five blocks from n on, and n + 5 blocks at least. -/
structure Five (n : Nat) (W : World) (o0 o1 o2 o3 o4 : Obj) : Prop where
  b0 : W.heap[n]? = some o0
  b1 : W.heap[n + 1]? = some o1
  b2 : W.heap[n + 1 + 1]? = some o2
  b3 : W.heap[n + 1 + 1 + 1]? = some o3
  b4 : W.heap[n + 1 + 1 + 1 + 1]? = some o4
theorem Five.size {n : Nat} {W : World} {o0 o1 o2 o3 o4 : Obj} (h : Five n W o0 o1 o2 o3 o4) : n + 5 ≤ W.heap.size := lt_of_row h.b4
theorem Five.later {n B : Nat} {W W' : World} {o0 o1 o2 o3 o4 : Obj} (h : Five n W o0 o1 o2 o3 o4) (hb : Below B W W') (hB : n + 5 ≤ B) : Five n W' o0 o1 o2 o3 o4 :=
  ⟨row_later hb (by omega) h.b0, row_later hb (by omega) h.b1, row_later hb (by omega) h.b2, row_later hb (by omega) h.b3, row_later hb (by omega) h.b4⟩
theorem five (w : World) (o0 o1 o2 o3 o4 : Obj) : Five w.heap.size (((((w.alloc o0).alloc o1).alloc o2).alloc o3).alloc o4) o0 o1 o2 o3 o4 := by
  have z1 : (w.alloc o0).heap.size = w.heap.size + 1 := World.size_alloc w o0
  have z2 : ((w.alloc o0).alloc o1).heap.size = w.heap.size + 1 + 1 := by rw [World.size_alloc, z1]
  have z3 : (((w.alloc o0).alloc o1).alloc o2).heap.size = w.heap.size + 1 + 1 + 1 := by rw [World.size_alloc, z2]
  have z4 : ((((w.alloc o0).alloc o1).alloc o2).alloc o3).heap.size = w.heap.size + 1 + 1 + 1 + 1 := by rw [World.size_alloc, z3]
  constructor
  · rw [Below.heap_alloc _ _ _ (by omega), Below.heap_alloc _ _ _ (by omega), Below.heap_alloc _ _ _ (by omega), Below.heap_alloc _ _ _ (by omega)]
    exact heap_last_at _ _ _ rfl
  · rw [Below.heap_alloc _ _ _ (by omega), Below.heap_alloc _ _ _ (by omega), Below.heap_alloc _ _ _ (by omega)]
    exact heap_last_at _ _ _ z1.symm
  · rw [Below.heap_alloc _ _ _ (by omega), Below.heap_alloc _ _ _ (by omega)]
    exact heap_last_at _ _ _ z2.symm
  · rw [Below.heap_alloc _ _ _ (by omega)]
    exact heap_last_at _ _ _ z3.symm
  · exact heap_last_at _ _ _ z4.symm
theorem five_below (w : World) (o0 o1 o2 o3 o4 : Obj) : Below w.heap.size w (((((w.alloc o0).alloc o1).alloc o2).alloc o3).alloc o4) :=
  (((((Below.refl _ _).alloc (Nat.le_refl _) _).alloc (by simp) _).alloc (by simp; omega) _).alloc (by simp; omega) _).alloc (by simp; omega) _
theorem cell_at {w : World} {g i : Nat} {A : Array Value} {t : TypeId} {v : Value} (h : w.heap[g]? = some (.cells A t (0, 0))) (hv : A[i]? = some v) : w.cell? ⟨g, i, none⟩ = some v :=
  (cell_of_row w g i A t (0, 0) h).trans hv

set_option maxHeartbeats 1000000 in
set_option maxRecDepth 100000 in
theorem law_any (A B C : Array Value) (x : Nat) (w : World) (hA : ParamsIs A x) (hB : NeuronIs B) (hC : NeuronIs C) (zB : B.size = 22) (zC : C.size = 22) :
    Calls Try.prog 3 #[.agg A, .agg B, .agg C] w fun e w' => e = .returned (.bool true) ∧ Below w.heap.size w w' := by
  have HA : Hid (ParamsIs A x) := hA
  have HB : Hid (NeuronIs B) := hB
  have HC : Hid (NeuronIs C) := hC
  have a6 := hA.rest
  have IA : Hid ((Try.prog.info? 24).map (·.size) = some A.size) := by rw [Hid, hA.size]; exact info24
  have IB : Hid ((Try.prog.info? 26).map (·.size) = some B.size) := by rw [Hid, zB]; exact info26
  have IC : Hid ((Try.prog.info? 26).map (·.size) = some C.size) := by rw [Hid, zC]; exact info26
  have K0 : Hid (∀ o1 o2 : Obj, (((w.alloc (.cells A 24)).alloc o1).alloc o2).heap[w.heap.size]? = some (.cells A 24 (0, 0))) := fun o1 o2 => by
    rw [Below.heap_alloc _ _ _ (by simp; omega), Below.heap_alloc _ _ _ (by simp)]; exact heap_alloc_last w _
  have F5 : Hid (Five w.heap.size (((((w.alloc (.cells A 24)).alloc (.cells B 26)).alloc (.cells C 26)).alloc (.cells A 27)).alloc (.cells (rest x) 27)) (.cells A 24) (.cells B 26) (.cells C 26) (.cells A 27) (.cells (rest x) 27)) := five w _ _ _ _ _
  have b0 := five_below w (.cells A 24) (.cells B 26) (.cells C 26) (.cells A 27) (.cells (rest x) 27)
  have z0 := F5.out.size
  have Z0 : Hid (w.heap.size + 5 ≤ (((((w.alloc (.cells A 24)).alloc (.cells B 26)).alloc (.cells C 26)).alloc (.cells A 27)).alloc (.cells (rest x) 27)).heap.size) := z0
  clear hA hB hC zB zC z0
  go_enter Try.func3, Try.ntmps3
  go_wp2_with (first | (refine wpList_load_row rfl 24 _ rfl _ rfl 24 _ (0, 0) _ (K0.out _ _) Try.underlying24 rfl IA.out ?_) | (refine wpList_store_new rfl 27 _ _ rfl _ _ _ _ rfl rfl (by simp) 35 info27 rfl HA.out.size HA.out.one ?_) | (refine wpList_build_to rfl 27 _ rfl (rest x) (by kernel_rfl) ?_) | (refine wpList_store_new rfl 27 _ _ rfl _ _ _ _ rfl rfl (by simp) 35 info27 rfl (rest_size x) (rest_one x) ?_) | (refine wpList_load_row rfl 26 _ rfl _ rfl 26 _ (0, 0) _ F5.out.b1 Try.underlying26 rfl IB.out ?_))
  refine (neuron_any B HB.out _).mono ?_
  rintro e w1 ⟨g1, A1, rfl, hg1, hz1, hr1, b1⟩
  have G1 : Hid (w1.heap[g1]? = some (.cells A1 34 (0, 0))) := hr1
  have S1 : Hid (A1.size = 22) := hz1
  have lt1 := lt_of_row hr1
  have F6 : Hid (Five w.heap.size w1 (.cells A 24) (.cells B 26) (.cells C 26) (.cells A 27) (.cells (rest x) 27)) := F5.out.later b1 Z0.out
  have q1 : w.heap.size + 5 ≤ g1 := Nat.le_trans Z0.out hg1
  clear hr1 hz1 hg1
  go_wp2_with (refine wpList_load_row rfl 26 _ rfl _ rfl 26 _ (0, 0) _ F6.out.b2 Try.underlying26 rfl IC.out ?_)
  refine (neuron_any C HC.out _).mono ?_
  rintro e w2 ⟨g2, A2, rfl, hg2, hz2, hr2, b2⟩
  have G2 : Hid (w2.heap[g2]? = some (.cells A2 34 (0, 0))) := hr2
  have S2 : Hid (A2.size = 22) := hz2
  have G1' : Hid (w2.heap[g1]? = some (.cells A1 34 (0, 0))) := row_later b2 lt1 G1.out
  have F7 : Hid (Five w.heap.size w2 (.cells A 24) (.cells B 26) (.cells C 26) (.cells A 27) (.cells (rest x) 27)) := F6.out.later b2 (by omega)
  clear hr2 hz2
  go_wp2_with fail
  refine (init_only (w.heap.size + 1 + 1 + 1) g1 x A1 w2 (cell_at F7.out.b3 HA.out.rest) G1'.out S1.out).mono ?_
  rintro e w3 ⟨rfl, hf1, o1⟩
  have E1 : Hid (w3.heap[g1]? = some (.cells (fresh x) 34 (0, 0))) := hf1
  have O1 : Hid (OnlyAt g1 w2 w3) := o1
  have F8 : Hid (Five w.heap.size w3 (.cells A 24) (.cells B 26) (.cells C 26) (.cells A 27) (.cells (rest x) 27)) := F7.out.later (o1.below q1) (Nat.le_refl _)
  have G2' : Hid (w3.heap[g2]? = some (.cells A2 34 (0, 0))) := (o1.block g2 (by omega)).trans G2.out
  clear hf1 o1
  go_wp2_with fail
  refine (init_only (w.heap.size + 1 + 1 + 1 + 1) g2 x A2 w3 (cell_at F8.out.b4 (rest_at x)) G2'.out S2.out).mono ?_
  rintro e w4 ⟨rfl, hf2, o2⟩
  have E2 : Hid (w4.heap[g2]? = some (.cells (fresh x) 34 (0, 0))) := hf2
  have E1' : Hid (w4.heap[g1]? = some (.cells (fresh x) 34 (0, 0))) := (o2.block g1 (by omega)).trans E1.out
  have O2 : Hid (OnlyAt g2 w3 w4) := o2
  have F9 : Hid (Five w.heap.size w4 (.cells A 24) (.cells B 26) (.cells C 26) (.cells A 27) (.cells (rest x) 27)) := F8.out.later (o2.below (show w.heap.size + 5 ≤ g2 by omega)) (Nat.le_refl _)
  clear hf2 o2
  have c1 : w4.cell? ⟨g1, 0, none⟩ = some (.float .f64 x) := cell_at E1'.out (fresh_at x)
  have c2 : w4.cell? ⟨w.heap.size, 6, none⟩ = some (.float .f64 x) := cell_at F9.out.b0 HA.out.rest
  have KS : Hid (∀ n, Calls Try.prog 7 #[.pointer (some ⟨g1, 0, none⟩), .pointer (some ⟨g2, 0, none⟩)] (w4.drewN n) fun e w' => e = .returned (.bool true) ∧ ∃ m, w' = (w4.drewN n).drewN m) := fun n => same_fresh g1 g2 x (w4.drewN n) E1'.out E2.out
  clear a6
  go_wp2_with fail
  go_quiet (first | (go_at_call 7; exact Calls.quiet_of (KS.out _)) | (go_at_call 8; exact Calls.quiet_of_same (sameF_any _ _)))
  go_wp2
  go_ret
  refine ⟨rfl, ?_⟩
  have l1 := b1.size
  exact (((((b0.trans (b1.mono b0.size)).trans (b2.mono (by omega))).trans (O1.out.below (by omega))).trans (O2.out.below (by omega))).trans (Joins.below_draws _ _ _))
end Go.Proofs.Qxb6609338a
