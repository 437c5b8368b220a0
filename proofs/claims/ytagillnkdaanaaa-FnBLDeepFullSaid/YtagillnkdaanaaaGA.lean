/- A REGION THAT DRAWS ITS ORDER, BY WHAT EACH OPERATION LEAVES: however its operations come, each of them is shown once. -/
import Derived.Orders
import Derived.KernelRfl
namespace Go.Proofs.Ytagillnkdaanaaa
set_option linter.unusedVariables false
set_option linter.unusedSimpArgs false

/-- D, and i. -/
def upd (D : Nat → Bool) (i : Nat) : Nat → Bool := fun j => if j = i then true else D j

/-- Each operation waits for earlier ones alone, and has no guard. -/
def plainB (ops : Array Oper) : Bool := (List.range ops.size).all fun i => match ops[i]? with
  | some o => o.guard.isNone && o.after.all fun e => decide (e.on < i)
  | none => true

section
variable {P : Program} {Q : Exit → Act → World → Prop}

/-- What is to be shown of operations k, k + 1, ..: behind those that they wait for, in any state that meets I. -/
def Steps1 (P : Program) (Q : Exit → Act → World → Prop) (I : (Nat → Bool) → Act → World → Prop) : List Oper → Nat → Prop
  | [], _ => True
  | o :: l, k => (∀ (D : Nat → Bool) (a : Act) (w : World), D k = false → (∀ e ∈ o.after.toList, Region.binds .any e = true → D e.on = true) → I D a w →
      ∀ K : Act → World → Prop, (∀ a' w', I (upd D k) a' w' → K a' w') → o.wp P a w K Q) ∧ Steps1 P Q I l (k + 1)

theorem Steps1.at {I : (Nat → Bool) → Act → World → Prop} : ∀ (l : List Oper) (k : Nat), Steps1 P Q I l k → ∀ i o, l[i]? = some o →
    ∀ (D : Nat → Bool) (a : Act) (w : World), D (k + i) = false → (∀ e ∈ o.after.toList, Region.binds .any e = true → D e.on = true) → I D a w →
      ∀ K : Act → World → Prop, (∀ a' w', I (upd D (k + i)) a' w' → K a' w') → o.wp P a w K Q
  | [], _, _, i, o, h => by simp at h
  | o' :: l, k, hs, i, o, h => by
    cases i with
    | zero =>
      simp at h
      subst h
      simpa using hs.1
    | succ i =>
      have := Steps1.at l (k + 1) hs.2 i o (by simpa using h)
      rw [show k + 1 + i = k + (i + 1) by omega] at this
      exact this

theorem region_inv_any {ops : Array Oper} (hB : plainB ops = true) (I : (Nat → Bool) → Act → World → Prop) (hs : Steps1 P Q I ops.toList 0)
    (hend : ∀ D a w, (∀ i, i < ops.size → D i = true) → I D a w → Q .normal a w) :
    ∀ (fuel : Nat) (listed : Array Bool) (a : Act) (w : World), listed.size = ops.size → listed.toList.count false ≤ fuel → I (fun i => listed.getD i false) a w → wpAny P .any ops Q fuel listed a w := by
  have hB' : ∀ (i : Nat) (o : Oper), ops[i]? = some o → o.guard = none ∧ ∀ e ∈ o.after.toList, e.on < i := fun i o ho => by
    have hlt : i < ops.size := (Array.getElem?_eq_some_iff.1 ho).1
    have := List.all_eq_true.1 hB i (List.mem_range.2 hlt)
    simp only [ho, Bool.and_eq_true, Option.isNone_iff_eq_none, Array.all_eq_true', decide_eq_true_eq] at this
    exact ⟨this.1, fun e he => this.2 e (by simpa using he)⟩
  -- where nothing may come up all have come up
  have hall : ∀ listed : Array Bool, listed.size = ops.size → Region.ready .any ops listed = [] → ∀ i, i < ops.size → listed.getD i false = true := by
    intro listed hsz hr i
    induction i using Nat.strongRecOn with
    | _ i ih =>
      intro hi
      cases hL : listed.getD i false with
      | true => rfl
      | false =>
        have hin : i ∈ Region.ready .any ops listed := by
          rw [mem_ready]
          refine ⟨?_, ops[i], by simp [hi], fun e he _ => ih e.on ((hB' i ops[i] (by simp [hi])).2 e (by simpa using he)) ?_⟩
          · have : i < listed.size := by omega
            simpa [Array.getD, this] using hL
          · have := (hB' i ops[i] (by simp [hi])).2 e (by simpa using he)
            omega
        rw [hr] at hin
        cases hin
  intro fuel
  induction fuel with
  | zero =>
    intro listed a w hsz hc hI
    have hno : Region.ready .any ops listed = [] := by
      apply List.eq_nil_iff_forall_not_mem.2
      intro j hj
      rw [mem_ready] at hj
      obtain ⟨hf, o, ho, _⟩ := hj
      have hlt : j < listed.size := by
        have := (Array.getElem?_eq_some_iff.1 ho).1
        omega
      have h0 : listed.toList.count false = 0 := by omega
      rw [List.count_eq_zero] at h0
      apply h0
      have : listed[j] = false := by simpa [Array.getD, hlt] using hf
      rw [← this]
      simp
    exact ⟨hno, hend _ a w (hall listed hsz hno) hI⟩
  | succ fuel ih =>
    intro listed a w hsz hc hI
    refine ⟨fun h0 => hend _ a w (hall listed hsz h0) hI, fun i hi => ?_⟩
    rw [mem_ready] at hi
    obtain ⟨hf, o, ho, haft⟩ := hi
    have hlt : i < listed.size := by
      have := (Array.getElem?_eq_some_iff.1 ho).1
      omega
    have hfi : listed[i] = false := by simpa [Array.getD, hlt] using hf
    unfold wpOp
    simp only [ho, Region.wanted, (hB' i o ho).1, if_true]
    left
    have hst := Steps1.at ops.toList 0 hs i o (by simpa using ho) (fun j => listed.getD j false) a w (by simp [Array.getD, hlt, hfi]) (fun e he hb => haft e (by simpa using he) hb) hI
    refine hst _ fun a' w' hI' => ih _ a' w' (by simpa using hsz) ?_ ?_
    · have : (listed.setIfInBounds i true).toList.count false < listed.toList.count false := by
        rw [Array.toList_setIfInBounds]
        have e1 : listed.toList = listed.toList.take i ++ false :: listed.toList.drop (i + 1) := by
          have : listed.toList[i]'(by simpa using hlt) = false := by simpa using hfi
          have e2 := List.take_append_drop i listed.toList
          rw [List.drop_eq_getElem_cons (by simpa using hlt), this] at e2
          exact e2.symm
        rw [List.set_eq_take_append_cons_drop, if_pos (by simpa using hlt)]
        conv => rhs; rw [e1]
        simp [List.count_append, List.count_cons]
      omega
    · have e : (fun j => (listed.setIfInBounds i true).getD j false) = upd (fun j => listed.getD j false) (0 + i) := by
        funext j
        unfold upd
        simp only [Nat.zero_add]
        by_cases hj : j = i
        · subst hj; simp [Array.getD, hlt]
        · simp only [hj, if_false]
          by_cases hjl : j < listed.size
          · simp [Array.getD, hjl, Array.getElem_setIfInBounds, Ne.symm hj]
          · simp [Array.getD, hjl]
      rw [e]
      exact hI'

/-- THE LAW. -/
theorem region_inv {id : Nat} {l : List Oper} {a : Act} {w : World} (hm : P.follows .mixedOrders = true) (hB : plainB l.toArray = true) (I : (Nat → Bool) → Act → World → Prop)
    (h0 : I (fun _ => false) a { w with drawn := w.drawn + 1 }) (hs : Steps1 P Q I l 0) (hend : ∀ D a w, (∀ i, i < l.length → D i = true) → I D a w → Q .normal a w) : (Code.region id l.toArray true).wp P Q a w := by
  refine wp_region_any hm (region_inv_any hB I (by simpa using hs) (by simpa using hend) _ _ a _ (by simp) ?_ ?_)
  · rw [Array.toList_replicate]
    simp [List.count_replicate]
  · have e : (fun i => (Array.replicate l.toArray.size false).getD i false) = fun _ => false := by
      funext i
      by_cases h : i < l.length <;> simp [Array.getD, h]
    rw [e]
    exact h0
end
/-- Each operation waits for earlier ones alone (as far as an edge binds), and has no guard. -/
def plainB2 (ops : Array Oper) : Bool := (List.range ops.size).all fun i => match ops[i]? with
  | some o => o.guard.isNone && o.after.all fun e => decide (e.on < i) || !Region.binds .any e
  | none => true

section
variable {P : Program} {Q : Exit → Act → World → Prop}

theorem region_inv2_any {ops : Array Oper} (hB : plainB2 ops = true) (I : (Nat → Bool) → Act → World → Prop) (hs : Steps1 P Q I ops.toList 0)
    (hend : ∀ D a w, (∀ i, i < ops.size → D i = true) → I D a w → Q .normal a w) :
    ∀ (fuel : Nat) (listed : Array Bool) (a : Act) (w : World), listed.size = ops.size → listed.toList.count false ≤ fuel → I (fun i => listed.getD i false) a w → wpAny P .any ops Q fuel listed a w := by
  have hB' : ∀ (i : Nat) (o : Oper), ops[i]? = some o → o.guard = none ∧ ∀ e ∈ o.after.toList, Region.binds .any e = true → e.on < i := fun i o ho => by
    have hlt : i < ops.size := (Array.getElem?_eq_some_iff.1 ho).1
    have := List.all_eq_true.1 hB i (List.mem_range.2 hlt)
    simp only [ho, Bool.and_eq_true, Option.isNone_iff_eq_none, Array.all_eq_true', decide_eq_true_eq, Bool.or_eq_true] at this
    exact ⟨this.1, fun e he hb => by
      rcases this.2 e (by simpa using he) with h | h
      · exact h
      · rw [hb] at h; cases h⟩
  -- where nothing may come up all have come up
  have hall : ∀ listed : Array Bool, listed.size = ops.size → Region.ready .any ops listed = [] → ∀ i, i < ops.size → listed.getD i false = true := by
    intro listed hsz hr i
    induction i using Nat.strongRecOn with
    | _ i ih =>
      intro hi
      cases hL : listed.getD i false with
      | true => rfl
      | false =>
        have hin : i ∈ Region.ready .any ops listed := by
          rw [mem_ready]
          refine ⟨?_, ops[i], by simp [hi], fun e he hb => ih e.on ((hB' i ops[i] (by simp [hi])).2 e (by simpa using he) hb) ?_⟩
          · have : i < listed.size := by omega
            simpa [Array.getD, this] using hL
          · have := (hB' i ops[i] (by simp [hi])).2 e (by simpa using he) hb
            omega
        rw [hr] at hin
        cases hin
  intro fuel
  induction fuel with
  | zero =>
    intro listed a w hsz hc hI
    have hno : Region.ready .any ops listed = [] := by
      apply List.eq_nil_iff_forall_not_mem.2
      intro j hj
      rw [mem_ready] at hj
      obtain ⟨hf, o, ho, _⟩ := hj
      have hlt : j < listed.size := by
        have := (Array.getElem?_eq_some_iff.1 ho).1
        omega
      have h0 : listed.toList.count false = 0 := by omega
      rw [List.count_eq_zero] at h0
      apply h0
      have : listed[j] = false := by simpa [Array.getD, hlt] using hf
      rw [← this]
      simp
    exact ⟨hno, hend _ a w (hall listed hsz hno) hI⟩
  | succ fuel ih =>
    intro listed a w hsz hc hI
    refine ⟨fun h0 => hend _ a w (hall listed hsz h0) hI, fun i hi => ?_⟩
    rw [mem_ready] at hi
    obtain ⟨hf, o, ho, haft⟩ := hi
    have hlt : i < listed.size := by
      have := (Array.getElem?_eq_some_iff.1 ho).1
      omega
    have hfi : listed[i] = false := by simpa [Array.getD, hlt] using hf
    unfold wpOp
    simp only [ho, Region.wanted, (hB' i o ho).1, if_true]
    left
    have hst := Steps1.at ops.toList 0 hs i o (by simpa using ho) (fun j => listed.getD j false) a w (by simp [Array.getD, hlt, hfi]) (fun e he hb => haft e (by simpa using he) hb) hI
    refine hst _ fun a' w' hI' => ih _ a' w' (by simpa using hsz) ?_ ?_
    · have : (listed.setIfInBounds i true).toList.count false < listed.toList.count false := by
        rw [Array.toList_setIfInBounds]
        have e1 : listed.toList = listed.toList.take i ++ false :: listed.toList.drop (i + 1) := by
          have : listed.toList[i]'(by simpa using hlt) = false := by simpa using hfi
          have e2 := List.take_append_drop i listed.toList
          rw [List.drop_eq_getElem_cons (by simpa using hlt), this] at e2
          exact e2.symm
        rw [List.set_eq_take_append_cons_drop, if_pos (by simpa using hlt)]
        conv => rhs; rw [e1]
        simp [List.count_append, List.count_cons]
      omega
    · have e : (fun j => (listed.setIfInBounds i true).getD j false) = upd (fun j => listed.getD j false) (0 + i) := by
        funext j
        unfold upd
        simp only [Nat.zero_add]
        by_cases hj : j = i
        · subst hj; simp [Array.getD, hlt]
        · simp only [hj, if_false]
          by_cases hjl : j < listed.size
          · simp [Array.getD, hjl, Array.getElem_setIfInBounds, Ne.symm hj]
          · simp [Array.getD, hjl]
      rw [e]
      exact hI'

/-- THE LAW. -/
theorem region_inv2 {id : Nat} {l : List Oper} {a : Act} {w : World} (hm : P.follows .mixedOrders = true) (hB : plainB2 l.toArray = true) (I : (Nat → Bool) → Act → World → Prop)
    (h0 : I (fun _ => false) a { w with drawn := w.drawn + 1 }) (hs : Steps1 P Q I l 0) (hend : ∀ D a w, (∀ i, i < l.length → D i = true) → I D a w → Q .normal a w) : (Code.region id l.toArray true).wp P Q a w := by
  refine wp_region_any hm (region_inv2_any hB I (by simpa using hs) (by simpa using hend) _ _ a _ (by simp) ?_ ?_)
  · rw [Array.toList_replicate]
    simp [List.count_replicate]
  · have e : (fun i => (Array.replicate l.toArray.size false).getD i false) = fun _ => false := by
      funext i
      by_cases h : i < l.length <;> simp [Array.getD, h]
    rw [e]
    exact h0
end
end Go.Proofs.Ytagillnkdaanaaa
