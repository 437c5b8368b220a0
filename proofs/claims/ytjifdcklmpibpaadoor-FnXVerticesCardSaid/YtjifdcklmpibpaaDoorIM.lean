/- MAPS KEYED BY INTERFACES that hold integers of one type: what lookup, store and len do on the map's block. -/
import Derived.Maps.Own
import Derived.ChangeKeysEq
import Derived.WalkKit
namespace Go.Proofs.YtjifdcklmpibpaaDoor
open Go.MapKept
set_option linter.unusedVariables false
set_option linter.unusedSimpArgs false
variable {P : Program} {kt ti : TypeId} {q : IntKind}

/-- The key: a number of type ti in an interface. -/
abbrev ik (ti : TypeId) (q : IntKind) (n : Int) : Value := .iface ti (.int q n)

structure IK (P : Program) (kt ti : TypeId) (q : IntKind) : Prop where
  hk : ∃ ms, P.underlying kt = some (.interface ms)
  hi : P.underlying ti = some (.int q)
  cmp : ∃ info, P.info? ti = some info ∧ info.comparable = true

theorem run_tyI {t : TypeId} {i : TypeInfo} (h : P.info? t = some i) (w : World) : (typeInfo t).run P w = .ok i w := by simp [typeInfo, h]

theorem ik_check (K : IK P kt ti q) (w : World) (em : Bool) (n : Int) : (Instr.checkKey em 10000 kt (ik ti q n)).run P w = .ok () w := by
  obtain ⟨⟨ms, h1⟩, h2, info, h3, h4⟩ := K
  rw [show (10000 : Nat) = 9998 + 1 + 1 from rfl]
  rw [Instr.checkKey]
  simp only [Sem.run_bind, run_underlying h1, Result.andThen, run_tyI h3 w, h4]
  rw [Instr.checkKey]
  simp [run_underlying h2, Result.andThen]

theorem ik_equal (K : IK P kt ti q) (w : World) (a b : Int) : (Op.equal kt (ik ti q a) (ik ti q b)).run P w = .ok (a == b) w := by
  obtain ⟨⟨ms, h1⟩, h2, info, h3, h4⟩ := K
  unfold Op.equal Op.maxDepth
  rw [show (10000 : Nat) = 9998 + 1 + 1 from rfl]
  rw [Op.equalIn]
  simp only [Sem.run_bind, run_underlying h1, Result.andThen]
  simp only [ne_eq, not_true_eq_false, if_false, Sem.run_bind, run_tyI h3 w, Result.andThen, h4]
  rw [Op.equalIn]
  simp [run_underlying h2, Result.andThen]

theorem ik_ask (K : IK P kt ti q) (w : World) (n : Int) : ∀ es : List MapEntry, (∀ e ∈ es, ∃ m, e.key = ik ti q m) → ∀ i,
    ((Instr.findAsking kt (ik ti q n) es i).run P w = .ok none w ∧ ∀ e ∈ es, e.key ≠ ik ti q n) ∨ ∃ j e, (Instr.findAsking kt (ik ti q n) es i).run P w = .ok (some (i + j, e.val)) w ∧ es[j]? = some e ∧ e.key = ik ti q n
  | [], _, i => Or.inl ⟨by simp [Instr.findAsking], by simp⟩
  | e :: es, h, i => by
    obtain ⟨m, hm⟩ := h e (by simp)
    have he := ik_equal K w n m
    by_cases hnm : n = m
    · subst hnm
      exact Or.inr ⟨0, e, by simp [Instr.findAsking, hm, he, Result.andThen], rfl, hm⟩
    · have hb : (n == m) = false := by simp [hnm]
      rw [hb] at he
      rcases ik_ask K w n es (fun e' he' => h e' (by simp [he'])) (i + 1) with ⟨h1, h2⟩ | ⟨j, e0, h1, h2, h3⟩
      · refine Or.inl ⟨by simp [Instr.findAsking, hm, he, Result.andThen, h1], fun e' he' => ?_⟩
        rcases List.mem_cons.1 he' with rfl | he'
        · rw [hm]
          intro e2
          simp only [Value.iface.injEq, Value.int.injEq, true_and] at e2
          exact hnm e2.symm
        · exact h2 e' he'
      · exact Or.inr ⟨j + 1, e0, by simp [Instr.findAsking, hm, he, Result.andThen, h1]; omega, by simpa using h2, h3⟩

theorem ik_find (K : IK P kt ti q) (w : World) (n : Int) (es : List MapEntry) (hes : ∀ e ∈ es, ∃ m, e.key = ik ti q m) :
    ((Instr.findKey kt (ik ti q n) es).run P w = .ok none w ∧ ∀ e ∈ es, e.key ≠ ik ti q n) ∨ ∃ j e, (Instr.findKey kt (ik ti q n) es).run P w = .ok (some (j, e.val)) w ∧ es[j]? = some e ∧ e.key = ik ti q n := by
  obtain ⟨ms, h1⟩ := K.hk
  cases es with
  | nil => exact Or.inl ⟨by simp [Instr.findKey, run_underlying h1, Instr.findNow, Result.andThen], by simp⟩
  | cons e es =>
    have hf : (Instr.findKey kt (ik ti q n) (e :: es)).run P w = (Instr.findAsking kt (ik ti q n) (e :: es) 0).run P w := by
      obtain ⟨m, hm⟩ := hes e (by simp)
      simp [Instr.findKey, run_underlying h1, Instr.findNow, Instr.sameNow, hm, Result.andThen]
    rw [hf]
    rcases ik_ask K w n (e :: es) hes 0 with h | ⟨j, e0, h2, h3, h4⟩
    · exact Or.inl h
    · exact Or.inr ⟨j, e0, by simpa using h2, h3, h4⟩

theorem ik_stays (w : World) (n : Int) : (Instr.keyThatStays (ik ti q n) (ik ti q n)).run P w = .ok (ik ti q n) w := by
  unfold Instr.keyThatStays
  rw [show (10000 : Nat) = 9999 + 1 from rfl]
  simp [Instr.sameBits]

/-- BLOCK b OF w IS A MAP OF n ENTRIES, AND f SAYS WHAT STANDS AT EACH NUMBER. -/
def IMap (ti : TypeId) (q : IntKind) (w : World) (b : Nat) (f : Int → Option Value) (n : Nat) : Prop :=
  ∃ es clock, w.heap[b]? = some (.map es clock) ∧ Stamped es clock ∧ (∀ x ∈ es.toList, ∃ k, x.key = ik ti q k) ∧ (∀ k v, f k = some v ↔ ∃ x ∈ es.toList, x.key = ik ti q k ∧ x.val = v) ∧ es.size = n

theorem IMap.made (ti : TypeId) (q : IntKind) (w : World) : IMap ti q (w.alloc (.map #[] 0)) w.heap.size (fun _ => none) 0 :=
  ⟨#[], 0, (heap_alloc w _).1, stamped_empty 0, by simp, by simp, rfl⟩
theorem IMap.lt {w : World} {b n : Nat} {f : Int → Option Value} (h : IMap ti q w b f n) : b < w.heap.size := by
  obtain ⟨es, clock, hb, _⟩ := h
  exact (Array.getElem?_eq_some_iff.1 hb).1
theorem IMap.keep {w w' : World} {b n : Nat} {f : Int → Option Value} (h : IMap ti q w b f n) (hb : w'.heap[b]? = w.heap[b]?) : IMap ti q w' b f n := by
  obtain ⟨es, clock, h1, h2⟩ := h
  exact ⟨es, clock, hb.trans h1, h2⟩

/-- m[k], and m[k] with ok. -/
theorem IMap.look {w : World} {b n : Nat} {f : Int → Option Value} (h : IMap ti q w b f n) (K : IK P kt ti q) {t e : TypeId} (ht : P.underlying t = some (.map kt e)) {z : Value} (hz : (zeroValue e).run P w = .ok z w) (c : Bool) (k : Int) :
    (Instr.lookup t (.map (some b)) (ik ti q k) c).run P w = .ok (if c then .tuple #[(f k).getD z, .bool (f k).isSome] else (f k).getD z) w := by
  obtain ⟨es, clock, hb, hs, hk, hf, hn⟩ := h
  rcases ik_find K w k es.toList hk with ⟨h1, h2⟩ | ⟨j, e0, h1, h2, h3⟩
  · have hnone : f k = none := by
      cases hv : f k with
      | none => rfl
      | some v =>
        obtain ⟨x, hx, hx1, _⟩ := (hf k v).1 hv
        exact absurd hx1 (h2 x hx)
    simp [Instr.lookup, run_underlying ht, MapKept.run_getObj_map hb, ik_check K w _ k, h1, hz, Result.andThen, hnone]
  · have hsome : f k = some e0.val := (hf k _).2 ⟨e0, List.mem_of_getElem? h2, h3, rfl⟩
    simp [Instr.lookup, run_underlying ht, MapKept.run_getObj_map hb, ik_check K w _ k, h1, Result.andThen, hsome]

/-- m[k] = v. -/
theorem IMap.store {w : World} {b n : Nat} {f : Int → Option Value} (h : IMap ti q w b f n) (K : IK P kt ti q) {t e : TypeId} (ht : P.underlying t = some (.map kt e)) (k : Int) (v : Value) :
    ∃ o, (Instr.mapUpdate t (.map (some b)) (ik ti q k) v).run P w = .ok () { w with heap := w.heap.setIfInBounds b o } ∧ IMap ti q { w with heap := w.heap.setIfInBounds b o } b (fun x => if x = k then some v else f x) (if (f k).isSome then n else n + 1) := by
  have hlt := h.lt
  obtain ⟨es, clock, hb, hs, hk, hf, hn⟩ := h
  have hset : ∀ o, ({ w with heap := w.heap.setIfInBounds b o } : World).heap[b]? = some o := fun o => by simp [hlt]
  have hinj : ∀ x y : Int, ik ti q x = ik ti q y → x = y := fun x y h => by
    simp only [Value.iface.injEq, Value.int.injEq, true_and] at h
    exact h
  rcases ik_find K w k es.toList hk with ⟨h1, h2⟩ | ⟨j, e0, h1, h2, h3⟩
  · have hnone : f k = none := by
      cases hv : f k with
      | none => rfl
      | some v =>
        obtain ⟨x, hx, hx1, _⟩ := (hf k v).1 hv
        exact absurd hx1 (h2 x hx)
    refine ⟨.map (es.push ⟨ik ti q k, v, clock⟩) (clock + 1), ?_, _, _, hset _, stamped_push hs h2, ?_, fun x u => ?_, by simp [hnone, hn]⟩
    · simp [Instr.mapUpdate, run_underlying ht, MapKept.run_getObj_map hb, ik_check K w _ k, h1, MapKept.run_setObj_map _ hb, Result.andThen]
    · intro x hx
      simp only [Array.toList_push, List.mem_append, List.mem_singleton] at hx
      rcases hx with hx | rfl
      · exact hk x hx
      · exact ⟨k, rfl⟩
    · simp only [Array.toList_push, List.mem_append, List.mem_singleton]
      by_cases hxk : x = k
      · subst hxk
        simp only [if_true, Option.some.injEq]
        constructor
        · rintro rfl; exact ⟨_, Or.inr rfl, rfl, rfl⟩
        · rintro ⟨y, hy | rfl, hy1, hy2⟩
          · exact absurd hy1 (h2 y hy)
          · exact hy2
      · simp only [hxk, if_false]
        rw [hf]
        constructor
        · rintro ⟨y, hy, hy1⟩; exact ⟨y, Or.inl hy, hy1⟩
        · rintro ⟨y, hy | rfl, hy1, hy2⟩
          · exact ⟨y, hy, hy1, hy2⟩
          · exact absurd (hinj _ _ hy1).symm hxk
  · have hj : es[j]? = some e0 := by simpa using h2
    have hjl : j < es.size := (Array.getElem?_eq_some_iff.1 hj).1
    have hsome : f k = some e0.val := (hf k _).2 ⟨e0, List.mem_of_getElem? h2, h3, rfl⟩
    have hkeyf : ∀ e', es[j]? = some e' → ({ e' with key := ik ti q k, val := v } : MapEntry).key = e'.key := fun e' he' => by rw [hj] at he'; cases he'; exact h3.symm
    refine ⟨.map (es.modify j (fun e' => { e' with key := ik ti q k, val := v })) clock, ?_, _, _, hset _, stamped_modify hs _ _ (fun _ _ => rfl) (fun e' _ he' => hkeyf e' he'), ?_, fun x u => ?_, by simp [hsome, hn]⟩
    · simp [Instr.mapUpdate, run_underlying ht, MapKept.run_getObj_map hb, ik_check K w _ k, h1, hj, h3, ik_stays w k, MapKept.run_setObj_map _ hb, Result.andThen]
    · intro x hx
      rcases MapFrom.mem_modify hx with hx | ⟨e', _, rfl⟩
      · exact hk x hx
      · exact ⟨k, rfl⟩
    · have hmem : ∀ y, y ∈ (es.modify j (fun e' => { e' with key := ik ti q k, val := v })).toList ↔ ∃ i, (es.modify j (fun e' => { e' with key := ik ti q k, val := v }))[i]? = some y := fun y => by
        rw [Array.mem_toList_iff, Array.mem_iff_getElem?]
      have hget : ∀ i, (es.modify j (fun e' => { e' with key := ik ti q k, val := v }))[i]? = if i = j then some { e0 with key := ik ti q k, val := v } else es[i]? := fun i => by
        rw [Array.getElem?_modify]
        by_cases hij : i = j
        · subst hij; simp [hj]
        · simp [hij, Ne.symm hij]
      have huniq : ∀ i y, es[i]? = some y → y.key = ik ti q k → i = j := fun i y hi hy => by
        have hp := ((stamped_iff es clock).1 hs).2.2
        by_cases hij : i = j
        · exact hij
        · exfalso
          rw [List.pairwise_iff_getElem] at hp
          have hil : i < es.size := (Array.getElem?_eq_some_iff.1 hi).1
          have ei : es[i] = y := by simpa [hil] using hi
          have ej : es[j] = e0 := by simpa [hjl] using hj
          rcases Nat.lt_or_gt_of_ne hij with hlt' | hlt'
          · have := hp i j (by simpa using hil) (by simpa using hjl) hlt'
            simp [ei, ej, hy, h3] at this
          · have := hp j i (by simpa using hjl) (by simpa using hil) hlt'
            simp [ei, ej, hy, h3] at this
      constructor
      · intro hx
        by_cases hxk : x = k
        · subst hxk
          simp only [if_true, Option.some.injEq] at hx
          subst hx
          exact ⟨_, (hmem _).2 ⟨j, by rw [hget, if_pos rfl]⟩, rfl, rfl⟩
        · simp only [hxk, if_false] at hx
          obtain ⟨y, hy, hy1, hy2⟩ := (hf x u).1 hx
          obtain ⟨i, hi⟩ := List.mem_iff_getElem?.1 hy
          have hi' : es[i]? = some y := by simpa using hi
          have hij : i ≠ j := fun e => by
            subst e
            rw [hj] at hi'
            cases hi'
            rw [h3] at hy1
            exact hxk (hinj _ _ hy1).symm
          exact ⟨y, (hmem _).2 ⟨i, by rw [hget, if_neg hij]; exact hi'⟩, hy1, hy2⟩
      · rintro ⟨y, hy, hy1, hy2⟩
        obtain ⟨i, hi⟩ := (hmem y).1 hy
        rw [hget] at hi
        by_cases hij : i = j
        · rw [if_pos hij] at hi
          cases hi
          have := hinj _ _ hy1
          subst this
          simp only [if_true]
          exact congrArg some hy2
        · rw [if_neg hij] at hi
          have hxk : x ≠ k := fun e => by
            subst e
            exact hij (huniq i y hi hy1)
          simp only [hxk, if_false]
          exact (hf x u).2 ⟨y, List.mem_of_getElem? (by simpa using hi), hy1, hy2⟩

/-- len(m). -/
theorem IMap.len {w : World} {b n : Nat} {f : Int → Option Value} (h : IMap ti q w b f n) {t e : TypeId} (ht : P.underlying t = some (.map kt e)) (ty : TypeId) : (Builtin.len_ #[t] ty #[.map (some b)]).run P w = .ok (goInt n) w := by
  obtain ⟨es, clock, hb, hs, hk, hf, hn⟩ := h
  simp [Builtin.len_, run_underlying ht, MapKept.run_getObj_map hb, Result.andThen, hn]
end Go.Proofs.YtjifdcklmpibpaaDoor
