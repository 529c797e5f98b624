/-
  Seat b6609338a: FnInitForgetsThePastAndReadsOnlyRest: the three structs opened; the row, proved.
-/
import Derived.Test.Qxb6609338aLaw
import Derived.ProofKit
import Derived.OpenShut
import Derived.Carry
namespace Go.Proofs.Qxb6609338a
open Go.ChangeShapes Go.WideShapes Go.ChangeAt Go.RowKit

theorem own : ownKnob Try.prog.godebug = none := by kernel_rfl
theorem laidOut : laidOutB Try.prog = true := by kernel_rfl
theorem cells24 : Try.prog.cellsOf 24 = 35 := by kernel_rfl
theorem cells26 : Try.prog.cellsOf 26 = 22 := by kernel_rfl

/-- What one plain cell holds, by its type's number: a float64 (22), an int (3), a bool (4). -/
def PlainAt (t : TypeId) (v : Value) : Prop := (t = 22 ∧ ∃ x, v = .float .f64 x) ∨ (t = 3 ∧ ∃ x, v = .int .i64 x) ∨ (t = 4 ∧ ∃ x, v = .bool x)
theorem PlainAt.one {t : TypeId} {v : Value} (h : PlainAt t v) : v.oneCell' = true := by
  rcases h with ⟨_, x, rfl⟩ | ⟨_, x, rfl⟩ | ⟨_, x, rfl⟩ <;> rfl
/-- A field of one plain cell at its own place. -/
def plainField (f : Field) (i : Nat) : Bool := f.offset == i && (f.type == 22 || f.type == 3 || f.type == 4)
def plainFrom : Nat → List Field → Bool
  | _, [] => true
  | i, f :: fs => plainField f i && plainFrom (i + 1) fs
theorem plainFrom_at : ∀ (fs : List Field) (j : Nat), plainFrom j fs = true → ∀ (i : Nat) (f : Field), fs[i]? = some f → plainField f (j + i) = true
  | [], _, _, i, f, h => by simp at h
  | g :: fs, j, hp, i, f, h => by
    simp only [plainFrom, Bool.and_eq_true] at hp
    cases i with
    | zero =>
      simp only [List.getElem?_cons_zero, Option.some.injEq] at h
      subst h
      exact hp.1
    | succ i =>
      have := plainFrom_at fs (j + 1) hp.2 i f (by simpa using h)
      rwa [show j + 1 + i = j + (i + 1) by omega] at this

section
variable {H : Type} {enc : TypeId × Value → H} {P : Program} {W : World} {base : Nat} {spare : Nat → Bool} {held : Bool}
theorem trod_float {t : TypeId} {k : FloatKind} {fuel : Nat} {cs : List Value} {y : DataW H × List MemPlace} (ht : P.underlying t = some (.float k)) (h : DataW.trod enc P W base spare held fuel t cs = some y) : ∃ x, cs = [.float k x] := by
  cases fuel with
  | zero => simp [DataW.trod] at h
  | succ n =>
    unfold DataW.trod at h
    rw [ht] at h
    split at h <;> simp_all
/-- The three plain types of this program. -/
structure Plains (P : Program) : Prop where
  u22 : P.underlying 22 = some (.float .f64)
  u3 : P.underlying 3 = some (.int .i64)
  u4 : P.underlying 4 = some .bool
  c22 : P.cellsOf 22 = 1
  c3 : P.cellsOf 3 = 1
  c4 : P.cellsOf 4 = 1
theorem plain_of (hP : Plains P) {t : TypeId} (ht : t = 22 ∨ t = 3 ∨ t = 4) {fuel : Nat} {cs : List Value} {y : DataW H × List MemPlace} (h : DataW.trod enc P W base spare held fuel t cs = some y) : ∃ v, cs = [v] ∧ PlainAt t v := by
  rcases ht with rfl | rfl | rfl
  · obtain ⟨x, rfl⟩ := trod_float hP.u22 h
    exact ⟨_, rfl, Or.inl ⟨rfl, x, rfl⟩⟩
  · obtain ⟨x, rfl, _⟩ := DataW.trod_int hP.u3 h
    exact ⟨_, rfl, Or.inr (Or.inl ⟨rfl, x, rfl⟩)⟩
  · obtain ⟨x, rfl, _⟩ := DataW.trod_bool hP.u4 h
    exact ⟨_, rfl, Or.inr (Or.inr ⟨rfl, x, rfl⟩)⟩

/-- A struct of plain cells, by value, opened: the value's cells, each of its field's kind. -/
theorem open_plain (hP : Plains P) {r : Reach} {b0 : Nat} {t : TypeId} {fs : Array Field} {ts : List TypeId} {v : Value} {d : DataW H} {p : List MemPlace} (ht : P.underlying t = some (.struct fs)) (hp : plainFrom 0 fs.toList = true) (hts : fs.toList.map (·.type) = ts)
    (hv : Value.okWide P W r b0 t v) (h : DataW.Trod enc P W base spare held t v d p) :
    ∃ cs : Array Value, v = .agg cs ∧ cs.size = P.cellsOf t ∧ ∀ (i : Nat) (u : TypeId), ts[i]? = some u → ∃ c, cs[i]? = some c ∧ PlainAt u c := by
  obtain ⟨cs, rfl, hsz⟩ := okWide_struct ht hv
  refine ⟨cs, rfl, hsz, fun i u hu => ?_⟩
  obtain ⟨f, hf, rfl⟩ : ∃ f, fs[i]? = some f ∧ f.type = u := by
    subst hts
    simp only [List.getElem?_map, Option.map_eq_some_iff, Array.getElem?_toList] at hu
    exact hu
  obtain ⟨fuel, hr⟩ := h
  obtain ⟨xs, n, _, _, _, hxl, hel⟩ := DataW.trod_struct ht hr
  have hpf := plainFrom_at fs.toList 0 hp i f (by simpa using hf)
  simp only [plainField, Nat.zero_add, Bool.and_eq_true, beq_iff_eq, Bool.or_eq_true, or_assoc] at hpf
  obtain ⟨ho, hty⟩ := hpf
  have he := hel i f hf
  have hi : i < xs.length := by
    rw [hxl]
    rcases Nat.lt_or_ge i fs.size with h' | h'
    · exact h'
    · rw [Array.getElem?_eq_none h'] at hf; cases hf
  rw [List.getElem?_eq_getElem hi] at he
  obtain ⟨c, e1, pc⟩ := plain_of hP hty he
  have hone : P.cellsOf f.type = 1 := by
    rcases hty with h' | h' | h' <;> rw [h']
    · exact hP.c22
    · exact hP.c3
    · exact hP.c4
  rw [hone, ho] at e1
  have e2 := congrArg (·[0]?) e1
  simp [Value.cells] at e2
  exact ⟨c, e2, pc⟩
end
theorem plains : Plains Try.prog := ⟨Try.underlying22, Try.underlying3, Try.underlying4, by kernel_rfl, by kernel_rfl, by kernel_rfl⟩
def ts24 : List TypeId := [22, 22, 22, 22, 22, 22, 22, 22, 22, 22, 22, 22, 22, 22, 3, 22, 22, 22, 22, 22, 22, 22, 22, 22, 22, 22, 22, 22, 22, 22, 22, 22, 22, 22, 22]
def ts26 : List TypeId := [22, 22, 4, 3, 22, 22, 22, 22, 22, 22, 22, 22, 22, 22, 22, 22, 22, 22, 22, 22, 22, 3]
/-- The two structs' fields, as far as they are wanted. -/
theorem struct24 : ∃ fs : Array Field, Try.prog.underlying 24 = some (.struct fs) ∧ plainFrom 0 fs.toList = true ∧ fs.toList.map (·.type) = ts24 :=
  ⟨_, Try.underlying24, by kernel_rfl, by kernel_rfl⟩
theorem struct26 : ∃ fs : Array Field, Try.prog.underlying 26 = some (.struct fs) ∧ plainFrom 0 fs.toList = true ∧ fs.toList.map (·.type) = ts26 :=
  ⟨_, Try.underlying26, by kernel_rfl, by kernel_rfl⟩

section
variable {H : Type} {enc : TypeId × Value → H} {W : World} {base : Nat} {spare : Nat → Bool} {held : Bool} {r : Reach} {b0 : Nat} {v : Value} {d : DataW H} {p : List MemPlace}
theorem float_of {c : Value} (h : PlainAt 22 c) : ∃ x, c = .float .f64 x := by
  rcases h with ⟨_, h⟩ | ⟨h, _⟩ | ⟨h, _⟩
  · exact h
  · exact absurd h (by decide)
  · exact absurd h (by decide)
theorem int_of {c : Value} (h : PlainAt 3 c) : ∃ x, c = .int .i64 x := by
  rcases h with ⟨h, _⟩ | ⟨_, h⟩ | ⟨h, _⟩
  · exact absurd h (by decide)
  · exact h
  · exact absurd h (by decide)
theorem bool_of {c : Value} (h : PlainAt 4 c) : ∃ x, c = .bool x := by
  rcases h with ⟨h, _⟩ | ⟨h, _⟩ | ⟨_, h⟩
  · exact absurd h (by decide)
  · exact absurd h (by decide)
  · exact h
theorem ts26_float : ∀ i : Nat, i < 21 → (i != 2) = true → (i != 3) = true → ts26[i]? = some 22 := by decide
set_option maxRecDepth 100000 in
theorem open_params (hv : Value.okWide Try.prog W r b0 24 v) (h : DataW.Trod enc Try.prog W base spare held 24 v d p) : ∃ A x, v = .agg A ∧ ParamsIs A x := by
  obtain ⟨fs, hu, hp, hts⟩ := struct24
  obtain ⟨A, rfl, hz, hc⟩ := open_plain plains hu hp hts hv h
  rw [cells24] at hz
  obtain ⟨c, hc6, hp6⟩ := hc 6 22 rfl
  obtain ⟨x, rfl⟩ := float_of hp6
  refine ⟨A, x, rfl, hz, ?_, hc6⟩
  rw [Array.all_eq_true_iff_forall_mem]
  intro c hm
  obtain ⟨i, hi, rfl⟩ := Array.getElem_of_mem hm
  have hi' : i < ts24.length := by rw [show ts24.length = 35 from rfl]; omega
  obtain ⟨c, hci, hpi⟩ := hc i _ (List.getElem?_eq_getElem hi')
  rw [Array.getElem?_eq_getElem hi] at hci
  cases hci
  exact hpi.one
set_option maxRecDepth 100000 in
theorem open_neuron (hv : Value.okWide Try.prog W r b0 26 v) (h : DataW.Trod enc Try.prog W base spare held 26 v d p) : ∃ B, v = .agg B ∧ NeuronIs B ∧ B.size = 22 := by
  obtain ⟨fs, hu, hp, hts⟩ := struct26
  obtain ⟨B, rfl, hz, hc⟩ := open_plain plains hu hp hts hv h
  rw [cells26] at hz
  refine ⟨B, rfl, ⟨fun i hi => ?_, fun i hi => ?_, fun i hi => ?_⟩, hz⟩
  · simp only [Bool.and_eq_true, decide_eq_true_eq] at hi
    obtain ⟨c, hci, hpi⟩ := hc i 22 (ts26_float i hi.1.1 hi.1.2 hi.2)
    obtain ⟨x, rfl⟩ := float_of hpi
    exact ⟨x, hci⟩
  · obtain rfl : i = 2 := by simpa using hi
    obtain ⟨c, hci, hpi⟩ := hc 2 4 rfl
    obtain ⟨x, rfl⟩ := bool_of hpi
    exact ⟨x, hci⟩
  · obtain rfl | rfl : i = 3 ∨ i = 21 := by simpa using hi
    · obtain ⟨c, hci, hpi⟩ := hc 3 3 rfl
      obtain ⟨x, rfl⟩ := int_of hpi
      exact ⟨x, hci⟩
    · obtain ⟨c, hci, hpi⟩ := hc 21 3 rfl
      obtain ⟨x, rfl⟩ := int_of hpi
      exact ⟨x, hci⟩
end

theorem later24 {H : Type} {enc : TypeId × Value → H} {W W' : World} {v : Value} {d : DataW H} {ps : List MemPlace}
    (h : DataW.Trod enc Try.prog W 0 (fun _ => true) true 24 v d ps) (hb : Below W.heap.size W W') (hlt : ∀ x ∈ ps, x.block < W.heap.size) :
    DataW.Trod enc Try.prog W' 0 (fun b => decide (b < W.heap.size)) true 24 v d ps :=
  Below.trod laidOut (by kernel_rfl) (of_decide_eq_true (by kernel_rfl)) h hb hlt
theorem later26 {H : Type} {enc : TypeId × Value → H} {W W' : World} {v : Value} {d : DataW H} {ps : List MemPlace}
    (h : DataW.Trod enc Try.prog W 0 (fun _ => true) true 26 v d ps) (hb : Below W.heap.size W W') (hlt : ∀ x ∈ ps, x.block < W.heap.size) :
    DataW.Trod enc Try.prog W' 0 (fun b => decide (b < W.heap.size)) true 26 v d ps :=
  Below.trod laidOut (by kernel_rfl) (of_decide_eq_true (by kernel_rfl)) h hb hlt

/-- The witness's arguments: all zeros. -/
def zeroParams : Value := .agg #[.float .f64 0, .float .f64 0, .float .f64 0, .float .f64 0, .float .f64 0, .float .f64 0, .float .f64 0, .float .f64 0, .float .f64 0, .float .f64 0, .float .f64 0, .float .f64 0, .float .f64 0, .float .f64 0, .int .i64 0, .float .f64 0, .float .f64 0, .float .f64 0, .float .f64 0, .float .f64 0, .float .f64 0, .float .f64 0, .float .f64 0, .float .f64 0, .float .f64 0, .float .f64 0, .float .f64 0, .float .f64 0, .float .f64 0, .float .f64 0, .float .f64 0, .float .f64 0, .float .f64 0, .float .f64 0, .float .f64 0]
def zeroNeuron : Value := .agg #[.float .f64 0, .float .f64 0, .bool false, .int .i64 0, .float .f64 0, .float .f64 0, .float .f64 0, .float .f64 0, .float .f64 0, .float .f64 0, .float .f64 0, .float .f64 0, .float .f64 0, .float .f64 0, .float .f64 0, .float .f64 0, .float .f64 0, .float .f64 0, .float .f64 0, .float .f64 0, .float .f64 0, .int .i64 0]

set_option maxRecDepth 100000 in
theorem lifted (os : Os) (started : os.Started) (H : Type) (enc : TypeId × Value → H) :
    ReturnsInHanded {} Try.checked os 3 .any (Rows.fnInitForgetsThePastAndReadsOnlyRestSpec.pre6 enc Try.prog Try.f3 Rows.fnInitForgetsThePastAndReadsOnlyRestRow.domain false) (Rows.fnInitForgetsThePastAndReadsOnlyRestSpec.post enc Try.prog Try.f3 false true false false) := by
  refine returnsInHanded_of_change (C := Try.checked) own started (by kernel_rfl) Try.func3
    (ChangeSpec.witness6 (enc := enc) (C := Try.checked) false ⟨#[], #[zeroParams, zeroNeuron, zeroNeuron], []⟩ 8 (by kernel_rfl) (by kernel_rfl) (by kernel_rfl) (by kernel_rfl)) ?_
  intro W base args ds gs before hval0 hW _ _
  have hval : ∀ (j : Nat) t v, Try.f3.params[j]? = some t → args[j]? = some v → Value.okWide Try.prog W .any base t v := hval0
  have hW' := hW
  obtain ⟨p, q, hA0, hV, rfl, hfz, hnd⟩ := hW
  have hlt := fun z hz => hW'.lt z hz
  have hA : DataW.TrodAll enc Try.prog W 0 (fun _ => true) true Try.f3.params.toList args.toList ds p := hA0
  rw [Try.params3] at hA hval
  obtain ⟨v0, v1, v2, d0, d1, d2, p0, p1, p2, rfl, rfl, rfl, h0, h1, h2⟩ := trodAll_three hA
  obtain ⟨rfl, rfl⟩ := trodVars_none hV
  obtain ⟨A, x, rfl, hpa⟩ := open_params (hval 0 24 v0 rfl rfl) h0
  obtain ⟨B, rfl, hnb, zb⟩ := open_neuron (hval 1 26 v1 rfl rfl) h1
  obtain ⟨C, rfl, hnc, zc⟩ := open_neuron (hval 2 26 v2 rfl rfl) h2
  clear hA0 hval0
  refine (law_any A B C x W hpa hnb hnc zb zc).mono fun e W' ⟨he, hb⟩ => ?_
  subst he
  exact ⟨_, rfl, _, _, _, [], p0 ++ (p1 ++ p2), [], hW', trodAll_mk1 (shut_bool Try.underlying4 _),
    trodAll_mk3 (later24 h0 hb (fun z hz => hlt z (by simp [hz]))) (later26 h1 hb (fun z hz => hlt z (by simp [hz]))) (later26 h2 hb (fun z hz => hlt z (by simp [hz]))), rfl, hb.frame _, fun h => by cases h⟩

/-- THE STATEMENT. -/
theorem proved : Rows.FnInitForgetsThePastAndReadsOnlyRestSaid :=
  OpenClaim.holds_of_wide 3 Try.f3 rfl rfl rfl rfl rfl rfl rfl ⟨rfl, rfl, rfl, rfl, rfl⟩ rfl rfl rfl rfl rfl (by kernel_rfl) Try.func3 (by kernel_rfl)
    (of_decide_eq_true (by kernel_rfl)) (by unfold Func.isWrapper; first | (rw [if_pos (by decide +kernel)]; kernel_rfl) | (rw [if_neg (by decide +kernel)]; exact ⟨rfl, rfl⟩))
    (fun os started H enc _ => lifted os started H enc)

end Go.Proofs.Qxb6609338a
