/-
  Seat b6609338a: a linear check for 'Region.lexB' (Derived.Still), for a long region whose operation j writes slot j + 5 (the last one: slot 4) and looks only at earlier slots that it waits for. No Go text; no tool's word.
-/
import Derived.Deep.Quiet
namespace Go.Proofs.Qxb6609338a
open Go

def sel (o : Oper) : Bool := match o.op with | .select .. => false | _ => true
/-- Operation j of n. -/
def okAt (ops : Array Oper) (n j : Nat) (o : Oper) : Bool :=
  sel o && (o.dst == if j + 1 = n then some 4 else some (j + 5)) && o.after.toList.all (fun e => decide (e.on < j)) &&
  (o.looksAt ops).all (fun s => decide (s < j + 5) && (s != 4) && (decide (s < 5) || o.after.toList.any (fun e => Region.binds .any e && e.on == s - 5)))
def okFrom (ops : Array Oper) (n : Nat) : Nat → List Oper → Bool
  | _, [] => true
  | j, o :: rest => okAt ops n j o && okFrom ops n (j + 1) rest

theorem okFrom_spec (ops : Array Oper) (n : Nat) : ∀ (l : List Oper) (j : Nat), okFrom ops n j l = true → ∀ (i : Nat) (o : Oper), l[i]? = some o → okAt ops n (j + i) o = true
  | [], _, _, i, o, h => by simp at h
  | a :: l, j, hk, i, o, h => by
    simp only [okFrom, Bool.and_eq_true] at hk
    cases i with
    | zero =>
      simp only [List.getElem?_cons_zero, Option.some.injEq] at h
      subst h
      exact hk.1
    | succ i =>
      have := okFrom_spec ops n l (j + 1) hk.2 i o (by simpa using h)
      rwa [show j + 1 + i = j + (i + 1) by omega] at this

theorem pair_ok {ops : Array Oper} {n k j : Nat} {ok oj : Oper} (hk : okAt ops n k ok = true) (hj : okAt ops n j oj = true) (hkj : k < j) (hjn : j < n) :
    (oj.after.any (fun e => Region.binds .any e && e.on == k) || ok.apart ops oj) = true := by
  simp only [okAt, Bool.and_eq_true, beq_iff_eq, List.all_eq_true, decide_eq_true_eq, bne_iff_ne, Bool.or_eq_true, List.any_eq_true] at hk hj
  obtain ⟨⟨⟨_, dk⟩, _⟩, lk⟩ := hk
  obtain ⟨⟨⟨_, dj⟩, _⟩, lj⟩ := hj
  rw [if_neg (by omega)] at dk
  by_cases hs : k + 5 ∈ oj.looksAt ops
  · rcases (lj _ hs).2 with h | ⟨e, he, hb, ho⟩
    · have h' : k + 5 < 5 := h
      omega
    · have : oj.after.any (fun e => Region.binds .any e && e.on == k) = true := by
        rw [Array.any_eq_true']
        exact ⟨e, Array.mem_toList_iff.1 he, by simp [hb, ho]⟩
      rw [this, Bool.true_or]
  · have hd : ∃ d : Nat, oj.dst = some d ∧ (d = 4 ∨ d = j + 5) := by
      rw [dj]
      split
      · exact ⟨4, rfl, Or.inl rfl⟩
      · exact ⟨j + 5, rfl, Or.inr rfl⟩
    obtain ⟨d, hd1, hd2⟩ := hd
    have h2 : d ∉ ok.looksAt ops := by
      intro hm
      have h3 : d < k + 5 := (lk _ hm).1.1
      have h4 : d ≠ 4 := (lk _ hm).1.2
      omega
    have : ok.apart ops oj = true := by
      simp only [Oper.apart, dk, hd1, Bool.and_eq_true, Bool.not_eq_true', bne_iff_ne, ne_eq, Option.some.injEq]
      have h5 : ¬ d = k + 5 := by omega
      refine ⟨⟨?_, h5⟩, ?_⟩
      · simpa using hs
      · simpa using h2
    rw [this, Bool.or_true]

theorem lexFrom_ok {ops : Array Oper} (H : ∀ j o, ops[j]? = some o → okAt ops ops.size j o = true) : ∀ (fuel k : Nat) (listed : Array Bool), fuel + k = ops.size →
    (∀ b j, j < ops.size → listed.getD j b = decide (j < k)) → listed.size = ops.size → Region.lexFrom .any ops fuel k listed = true
  | 0, k, listed, hf, hl, _ => by
    simp only [Region.lexFrom, Region.ready, List.isEmpty_iff, List.filter_eq_nil_iff, List.mem_range]
    intro i hi
    rw [hl true i hi]
    simp [show i < k by omega]
  | fuel + 1, k, listed, hf, hl, hsz => by
    have hk : k < ops.size := by omega
    have hok := H k ops[k] (by simp [hk])
    have hafter : ∀ e ∈ (ops[k]).after, e.on < k := by
      have h := hok
      simp only [okAt, Bool.and_eq_true, List.all_eq_true, decide_eq_true_eq] at h
      exact fun e he => h.1.2 e (Array.mem_toList_iff.2 he)
    simp only [Region.lexFrom, Bool.and_eq_true]
    refine ⟨⟨?_, ?_⟩, ?_⟩
    · simp only [Region.ready, List.contains_iff_mem, List.mem_filter, List.mem_range]
      refine ⟨hk, ?_⟩
      rw [hl true k hk]
      simp only [Nat.lt_irrefl, decide_false, Bool.not_false, Bool.true_and, Array.getElem?_eq_getElem hk, Option.map_some, Option.getD_some]
      rw [Array.all_eq_true_iff_forall_mem]
      intro e he
      have := hafter e he
      rw [hl false e.on (by omega)]
      simp [this]
    · simp only [Region.free, Array.getElem?_eq_getElem hk, List.all_eq_true, List.mem_range]
      intro j hj
      rw [hl true j hj]
      rcases Nat.lt_trichotomy j k with h | h | h
      · simp [h]
      · simp [h]
      · have hp := pair_ok hok (H j ops[j] (by simp [hj])) h hj
        rw [Array.getElem?_eq_getElem hj]
        simp only [hp, Bool.or_true]
    · refine lexFrom_ok H fuel (k + 1) _ (by omega) (fun b j hj => ?_) (by simpa using hsz)
      by_cases h : j = k
      · subst h
        simp [Array.getD, hsz, hk]
      · have h3 := hl b j hj
        have : (listed.setIfInBounds k true).getD j b = listed.getD j b := by
          simp only [Array.getD_eq_getD_getElem?, Array.getElem?_setIfInBounds, if_neg (show ¬ k = j by omega)]
        rw [this, h3]
        simp only [decide_eq_decide]
        omega

/-- THE LINEAR CHECK SERVES. -/
theorem lexB_of {l : List Oper} (h : okFrom l.toArray l.length 0 l = true) : Region.lexB .any l.toArray = true := by
  have H : ∀ j o, l.toArray[j]? = some o → okAt l.toArray l.toArray.size j o = true := by
    intro j o hj
    have := okFrom_spec l.toArray l.length l 0 h j o (by simpa using hj)
    simpa using this
  simp only [Region.lexB, Bool.and_eq_true]
  refine ⟨?_, lexFrom_ok H _ 0 _ (by omega) (fun b j hj => ?_) (by simp)⟩
  · rw [Region.noSelect, Array.all_eq_true_iff_forall_mem]
    intro o ho
    obtain ⟨j, hj, rfl⟩ := Array.getElem_of_mem ho
    have := H j _ (Array.getElem?_eq_getElem hj)
    simp only [okAt, Bool.and_eq_true] at this
    exact this.1.1.1
  · have hj' : j < l.length := by simpa using hj
    simp [Array.getD, hj']
end Go.Proofs.Qxb6609338a
