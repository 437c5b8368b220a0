/- PLAIN: balanced trees with the places of their nodes; what an insertion makes of them. -/
import Derived.Test.YtlppnbmaedgodaaRows
namespace Go.Proofs.Ytlppnbmaedgodaa
set_option linter.unusedVariables false
set_option linter.unusedSimpArgs false

/-- A tree: where its nodes lie, their balances, keys and values. -/
inductive T where
  | nil : T
  | node (a : Nat) (b : Int) (l r : T) (k v : Int) : T
def T.adr : T → Option Nat
  | .nil => none
  | .node a _ _ _ _ _ => some a
def T.bl : T → List Nat
  | .nil => []
  | .node a _ l r _ _ => a :: (l.bl ++ r.bl)
def T.toL : T → List (Int × Int)
  | .nil => []
  | .node _ _ l r k v => l.toL ++ (k, v) :: r.toL
def T.ht : T → Int
  | .nil => 0
  | .node _ _ l r _ _ => 1 + max l.ht r.ht
def T.Avl : T → Prop
  | .nil => True
  | .node _ b l r _ _ => b = r.ht - l.ht ∧ -1 ≤ b ∧ b ≤ 1 ∧ l.Avl ∧ r.Avl
def T.size : T → Nat
  | .nil => 0
  | .node _ _ l r _ _ => l.size + r.size + 1
theorem T.ht_nonneg : ∀ t : T, 0 ≤ t.ht
  | .nil => by simp [T.ht]
  | .node _ _ l r _ _ => by have := T.ht_nonneg l; have := T.ht_nonneg r; simp only [T.ht]; omega
theorem T.len_size : ∀ t : T, t.toL.length = t.size
  | .nil => rfl
  | .node _ _ l r _ _ => by simp [T.toL, T.size, T.len_size l, T.len_size r]; omega
theorem T.bl_size : ∀ t : T, t.bl.length = t.size
  | .nil => rfl
  | .node _ _ l r _ _ => by simp [T.bl, T.size, T.bl_size l, T.bl_size r]
theorem T.adr_bl {t : T} {a : Nat} (h : t.adr = some a) : a ∈ t.bl := by
  cases t with
  | nil => cases h
  | node => cases h; simp [T.bl]
/-- A node above: d says that the way goes to the right; sib is its other child. -/
structure Fr where
  a : Nat
  b : Int
  d : Bool
  sib : T
  k : Int
  v : Int
def Fr.fill (f : Fr) (t : T) : T := if f.d then .node f.a f.b f.sib t f.k f.v else .node f.a f.b t f.sib f.k f.v
def zip : List Fr → T → T
  | [], t => t
  | f :: fs, t => f.fill (zip fs t)
theorem zip_app (fs gs : List Fr) (t : T) : zip (fs ++ gs) t = zip fs (zip gs t) := by
  induction fs with
  | nil => rfl
  | cons f fs ih => simp [zip, ih]
theorem zip_snoc (fs : List Fr) (f : Fr) (t : T) : zip (fs ++ [f]) t = zip fs (f.fill t) := by rw [zip_app]; rfl
def pre : List Fr → List (Int × Int)
  | [] => []
  | f :: fs => (if f.d then f.sib.toL ++ [(f.k, f.v)] else []) ++ pre fs
def post : List Fr → List (Int × Int)
  | [] => []
  | f :: fs => post fs ++ (if f.d then [] else (f.k, f.v) :: f.sib.toL)
theorem zip_toL (fs : List Fr) (t : T) : (zip fs t).toL = pre fs ++ t.toL ++ post fs := by
  induction fs with
  | nil => simp [zip, pre, post]
  | cons f fs ih =>
    unfold zip Fr.fill pre post
    cases f.d <;> simp [T.toL, ih]
def frBl : List Fr → List Nat
  | [] => []
  | f :: fs => f.a :: (f.sib.bl ++ frBl fs)
theorem frBl_app (fs gs : List Fr) : frBl (fs ++ gs) = frBl fs ++ frBl gs := by
  induction fs with
  | nil => rfl
  | cons f fs ih => simp [frBl, ih]
theorem zip_bl (fs : List Fr) (t : T) : (zip fs t).bl.Perm (frBl fs ++ t.bl) := by
  induction fs with
  | nil => simp [zip, frBl]
  | cons f fs ih =>
    unfold zip Fr.fill frBl
    cases f.d
    · simp only [Bool.false_eq_true, if_false, T.bl, List.cons_append]
      refine List.Perm.cons _ ?_
      refine (List.perm_append_comm).trans ?_
      rw [List.append_assoc]
      exact List.Perm.append_left _ ih
    · simp only [if_true, T.bl, List.cons_append]
      refine List.Perm.cons _ ?_
      rw [List.append_assoc]
      exact List.Perm.append_left _ ih
/-- The list is in order of its keys. -/
def Ord (l : List (Int × Int)) : Prop := l.Pairwise (fun x y => x.1 < y.1)
/-- An entry comes into a list in order: it takes the place of one with its key, or stands between the others. -/
def lins (k v : Int) : List (Int × Int) → List (Int × Int)
  | [] => [(k, v)]
  | (k', v') :: l => if k < k' then (k, v) :: (k', v') :: l else if k = k' then (k, v) :: l else (k', v') :: lins k v l
def lget (k : Int) : List (Int × Int) → Option Int
  | [] => none
  | (k', v') :: l => if k' = k then some v' else lget k l
theorem lget_app (k : Int) (l m : List (Int × Int)) (h : ∀ x ∈ l, x.1 ≠ k) : lget k (l ++ m) = lget k m := by
  induction l with
  | nil => rfl
  | cons x l ih =>
    obtain ⟨a, b⟩ := x
    simp only [List.cons_append, lget]
    rw [if_neg (h (a, b) (by simp)), ih (fun y hy => h y (by simp [hy]))]
theorem lget_none (k : Int) (l : List (Int × Int)) (h : ∀ x ∈ l, x.1 ≠ k) : lget k l = none := by
  have := lget_app k l [] h
  rw [List.append_nil] at this
  exact this
theorem lins_pre (k v : Int) (l m : List (Int × Int)) (h : ∀ x ∈ l, x.1 < k) : lins k v (l ++ m) = l ++ lins k v m := by
  induction l with
  | nil => rfl
  | cons x l ih =>
    obtain ⟨a, b⟩ := x
    have h1 : a < k := h (a, b) (by simp)
    simp only [List.cons_append, lins]
    rw [if_neg (by omega), if_neg (by omega), ih (fun y hy => h y (by simp [hy]))]
theorem lins_post (k v : Int) (m : List (Int × Int)) (h : ∀ x ∈ m, k < x.1) : lins k v m = (k, v) :: m := by
  cases m with
  | nil => rfl
  | cons x m =>
    obtain ⟨a, b⟩ := x
    have h1 : k < a := h (a, b) (by simp)
    simp only [lins]
    rw [if_pos h1]
theorem lins_eq (k v v' : Int) (m : List (Int × Int)) : lins k v ((k, v') :: m) = (k, v) :: m := by
  simp [lins]
/-- The way that a search for a key goes. -/
def Way (k : Int) (fs : List Fr) : Prop := ∀ f ∈ fs, f.k ≠ k ∧ f.d = decide (f.k < k)
theorem way_ord {k : Int} : ∀ {fs : List Fr} {t : T}, Way k fs → Ord (zip fs t).toL → (∀ x ∈ pre fs, x.1 < k) ∧ (∀ x ∈ post fs, k < x.1)
  | [], t, _, _ => ⟨fun x h => (by cases h), fun x h => (by cases h)⟩
  | f :: fs, t, h, ho => by
    obtain ⟨h1, h2⟩ := h f (by simp)
    have ho' : Ord (zip fs t).toL := by
      unfold zip Fr.fill at ho
      cases hd : f.d <;> rw [hd] at ho <;> simp only [if_true, if_false, T.toL, Bool.false_eq_true, Ord] at ho
      · exact (List.pairwise_append.1 ho).1
      · exact (List.pairwise_cons.1 (List.pairwise_append.1 ho).2.1).2
    obtain ⟨i1, i2⟩ := way_ord (fun g hg => h g (by simp [hg])) ho'
    unfold zip Fr.fill at ho
    unfold pre post
    cases hd : f.d
    · rw [hd] at ho h2
      simp only [Bool.false_eq_true, if_false, T.toL, Ord] at ho
      have hk : k < f.k := by
        have : ¬ f.k < k := by simpa using h2.symm
        omega
      obtain ⟨_, o2, o3⟩ := List.pairwise_append.1 ho
      refine ⟨fun x hx => i1 x (by simpa using hx), fun x hx => ?_⟩
      simp only [Bool.false_eq_true, if_false] at hx
      rcases List.mem_append.1 hx with hx | hx
      · exact i2 x hx
      · rcases List.mem_cons.1 hx with e | hx
        · subst e; exact hk
        · have := (List.pairwise_cons.1 o2).1 x hx
          simp only at this
          omega
    · rw [hd] at ho h2
      simp only [if_true, T.toL, Ord] at ho
      have hk : f.k < k := by simpa using h2.symm
      obtain ⟨_, o2, o3⟩ := List.pairwise_append.1 ho
      refine ⟨fun x hx => ?_, fun x hx => i2 x (by simpa using hx)⟩
      simp only [if_true] at hx
      rcases List.mem_append.1 hx with hx | hx
      · rcases List.mem_append.1 hx with hx | hx
        · have := o3 x hx (f.k, f.v) (by simp)
          simp only at this
          omega
        · obtain rfl := List.mem_singleton.1 hx
          exact hk
      · exact i1 x hx
/-- A new entry, or one in the place of another, in the list. -/
theorem ins_list {k v : Int} {fs : List Fr} (h : Way k fs) (ho : Ord (zip fs T.nil).toL) : lins k v (zip fs T.nil).toL = pre fs ++ (k, v) :: post fs ∧ lget k (zip fs T.nil).toL = none := by
  obtain ⟨h1, h2⟩ := way_ord h ho
  rw [zip_toL]
  simp only [T.toL, List.append_nil]
  refine ⟨by rw [lins_pre _ _ _ _ h1, lins_post _ _ _ h2], lget_none _ _ fun x hx => ?_⟩
  rcases List.mem_append.1 hx with hx | hx
  · have := h1 x hx; omega
  · have := h2 x hx; omega
theorem over_list {k v v' : Int} {a : Nat} {b : Int} {l r : T} {fs : List Fr} (h : Way k fs) (ho : Ord (zip fs (.node a b l r k v')).toL) : lins k v (zip fs (.node a b l r k v')).toL = (zip fs (.node a b l r k v)).toL ∧ lget k (zip fs (.node a b l r k v')).toL = some v' := by
  obtain ⟨h1, h2⟩ := way_ord h ho
  have ho' := ho
  rw [zip_toL] at ho ⊢
  rw [zip_toL]
  simp only [T.toL, Ord] at ho ⊢
  have hl : ∀ x ∈ l.toL, x.1 < k := fun x hx => by
    have := (List.pairwise_append.1 (List.pairwise_append.1 ho).1).2.1
    exact (List.pairwise_append.1 this).2.2 x hx (k, v') (by simp)
  have e : ∀ (v : Int), pre fs ++ (l.toL ++ (k, v) :: r.toL) ++ post fs = (pre fs ++ l.toL) ++ ((k, v) :: (r.toL ++ post fs)) := fun v => by simp
  have hp : ∀ x ∈ pre fs ++ l.toL, x.1 < k := fun x hx => by
    rcases List.mem_append.1 hx with hx | hx
    · exact h1 x hx
    · exact hl x hx
  refine ⟨by rw [e, e, lins_pre _ _ _ _ hp, lins_eq], ?_⟩
  rw [e, lget_app _ _ _ (fun x hx => by have := hp x hx; omega)]
  simp [lget]
theorem lins_ord {k v : Int} : ∀ {l : List (Int × Int)}, Ord l → Ord (lins k v l)
  | [], _ => by simp [lins, Ord]
  | (k', v') :: l, h => by
    unfold lins
    obtain ⟨h1, h2⟩ := List.pairwise_cons.1 h
    split
    · rename_i hk
      refine List.pairwise_cons.2 ⟨fun x hx => ?_, h⟩
      rcases List.mem_cons.1 hx with e | hx
      · subst e; exact hk
      · have := h1 x hx; simp only at this ⊢; omega
    · split
      · rename_i hk
        subst hk
        exact List.pairwise_cons.2 ⟨h1, h2⟩
      · rename_i g1 g2
        refine List.pairwise_cons.2 ⟨fun x hx => ?_, lins_ord h2⟩
        have : x = (k, v) ∨ x ∈ l := by
          clear h h1 h2
          induction l with
          | nil => simp [lins] at hx; exact Or.inl hx
          | cons y l ih =>
            obtain ⟨a, b⟩ := y
            unfold lins at hx
            split at hx
            · rcases List.mem_cons.1 hx with e | hx
              · exact Or.inl e
              · exact Or.inr hx
            · split at hx
              · rcases List.mem_cons.1 hx with e | hx
                · exact Or.inl e
                · exact Or.inr (by simp [hx])
              · rcases List.mem_cons.1 hx with e | hx
                · exact Or.inr (by simp [e])
                · rcases ih hx with e | h
                  · exact Or.inl e
                  · exact Or.inr (by simp [h])
        rcases this with e | hx
        · subst e; simp only; omega
        · exact h1 x hx
theorem lget_lins (k v : Int) (q : Int) : ∀ l : List (Int × Int), Ord l → lget q (lins k v l) = if k = q then some v else lget q l
  | [], _ => by simp [lins, lget]
  | (k', v') :: l, h => by
    obtain ⟨h1, h2⟩ := List.pairwise_cons.1 h
    have ih := lget_lins k v q l h2
    unfold lins
    split
    · simp only [lget]
    · split
      · rename_i hk
        subst hk
        simp only [lget]
        split <;> rfl
      · rename_i g1 g2
        simp only [lget, ih]
        split
        · rename_i e
          subst e
          rw [if_neg g2]
        · rfl
theorem len_lins (k v : Int) : ∀ l : List (Int × Int), Ord l → (lins k v l).length = if (lget k l).isSome then l.length else l.length + 1
  | [], _ => by simp [lins, lget]
  | (k', v') :: l, h => by
    obtain ⟨h1, h2⟩ := List.pairwise_cons.1 h
    have ih := len_lins k v l h2
    unfold lins
    split
    · rename_i hk
      have : lget k ((k', v') :: l) = none := lget_none _ _ fun x hx => by
        rcases List.mem_cons.1 hx with e | hx
        · subst e; simp only; omega
        · have := h1 x hx; simp only at this; omega
      rw [this]
      simp
    · split
      · rename_i hk
        subst hk
        simp [lget]
      · rename_i g1 g2
        have e : lget k ((k', v') :: l) = lget k l := by simp only [lget]; rw [if_neg (by omega)]
        rw [e, List.length_cons, ih]
        split <;> rfl
end Go.Proofs.Ytlppnbmaedgodaa
