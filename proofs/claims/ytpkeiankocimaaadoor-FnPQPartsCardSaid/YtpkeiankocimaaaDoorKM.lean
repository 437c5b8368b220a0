/- MAPS in memory, of whatever keys: what lookup, store, delete, len and range do on the map's block. -/
import Derived.Maps.Own
import Derived.Maps.OwnOps
import Derived.Maps.RangeWalk
import Derived.ChangeKeysEq
import Derived.WalkKit
import Derived.Lib.Hide
namespace Go.Proofs.YtpkeiankocimaaaDoor
open Go.MapKept Go.Maps
open Go.ChangeMaps (setBlock)
set_option linter.unusedVariables false
set_option linter.unusedSimpArgs false
variable {P : Program} {kt : TypeId} {α : Type} {enc : α → Value}

/-- The keys of kt are these values; they can be told apart. -/
structure KEnc (P : Program) (kt : TypeId) (enc : α → Value) : Prop where
  inj : ∀ a b, enc a = enc b → a = b
  check : ∀ (w : World) (em : Bool) (a : α), (Instr.checkKey em 10000 kt (enc a)).run P w = .ok () w
  find : ∀ (w : World) (a : α) (es : List MapEntry), (∀ e ∈ es, ∃ m, e.key = enc m) →
    ((Instr.findKey kt (enc a) es).run P w = .ok none w ∧ ∀ e ∈ es, e.key ≠ enc a) ∨ ∃ j e, (Instr.findKey kt (enc a) es).run P w = .ok (some (j, e.val)) w ∧ es[j]? = some e ∧ e.key = enc a
  stays : ∀ (w : World) (a : α), (Instr.keyThatStays (enc a) (enc a)).run P w = .ok (enc a) w

theorem krun_ty {t : TypeId} {i : TypeInfo} (h : P.info? t = some i) (w : World) : (typeInfo t).run P w = .ok i w := by simp [typeInfo, h]

/-- Keys in interfaces: what is asked of the values in them. -/
structure KIn [DecidableEq α] (P : Program) (kt ti : TypeId) (enc : α → Value) : Prop where
  hk : ∃ ms, P.underlying kt = some (.interface ms)
  cmp : ∃ info, P.info? ti = some info ∧ info.comparable = true
  inj : ∀ a b, enc a = enc b → a = b
  check : ∀ (w : World) (em : Bool) (a : α), (Instr.checkKey em 9999 ti (enc a)).run P w = .ok () w
  equal : ∀ (w : World) (a b : α), (Op.equalIn 9999 ti (enc a) (enc b)).run P w = .ok (decide (a = b)) w
  stays : ∀ (w : World) (a : α), (Instr.keyThatStays (.iface ti (enc a)) (.iface ti (enc a))).run P w = .ok (.iface ti (enc a)) w

theorem KIn.equalI [DecidableEq α] {ti : TypeId} (K : KIn P kt ti enc) (w : World) (a b : α) : (Op.equal kt (.iface ti (enc a)) (.iface ti (enc b))).run P w = .ok (decide (a = b)) w := by
  obtain ⟨⟨ms, h1⟩, ⟨info, h3, h4⟩, _, _, he, _⟩ := K
  unfold Op.equal Op.maxDepth
  rw [show (10000 : Nat) = 9999 + 1 from rfl, Op.equalIn]
  simp only [Sem.run_bind, run_underlying h1, Result.andThen]
  simp only [ne_eq, not_true_eq_false, if_false, Sem.run_bind, krun_ty h3 w, Result.andThen, h4]
  simpa using he w a b

theorem KIn.ask [DecidableEq α] {ti : TypeId} (K : KIn P kt ti enc) (w : World) (n : α) : ∀ es : List MapEntry, (∀ e ∈ es, ∃ m, e.key = .iface ti (enc m)) → ∀ i,
    ((Instr.findAsking kt (.iface ti (enc n)) es i).run P w = .ok none w ∧ ∀ e ∈ es, e.key ≠ .iface ti (enc n)) ∨ ∃ j e, (Instr.findAsking kt (.iface ti (enc n)) es i).run P w = .ok (some (i + j, e.val)) w ∧ es[j]? = some e ∧ e.key = .iface ti (enc n)
  | [], _, i => Or.inl ⟨by simp [Instr.findAsking], by simp⟩
  | e :: es, h, i => by
    obtain ⟨m, hm⟩ := h e (by simp)
    have he := K.equalI w n m
    by_cases hnm : n = m
    · subst hnm
      exact Or.inr ⟨0, e, by simp [Instr.findAsking, hm, he, Result.andThen], rfl, hm⟩
    · have hb : decide (n = m) = false := by simp [hnm]
      rw [hb] at he
      rcases K.ask w n es (fun e' he' => h e' (by simp [he'])) (i + 1) with ⟨h1, h2⟩ | ⟨j, e0, h1, h2, h3⟩
      · refine Or.inl ⟨by simp [Instr.findAsking, hm, he, Result.andThen, h1], fun e' he' => ?_⟩
        rcases List.mem_cons.1 he' with rfl | he'
        · rw [hm]
          intro e2
          simp only [Value.iface.injEq, true_and] at e2
          exact hnm (K.inj _ _ e2).symm
        · exact h2 e' he'
      · exact Or.inr ⟨j + 1, e0, by simp [Instr.findAsking, hm, he, Result.andThen, h1]; omega, by simpa using h2, h3⟩

theorem KIn.toKEnc [DecidableEq α] {ti : TypeId} (K : KIn P kt ti enc) : KEnc P kt (fun a => .iface ti (enc a)) := by
  refine ⟨fun a b h => K.inj a b (by simpa using h), fun w em a => ?_, fun w a es hes => ?_, K.stays⟩
  · obtain ⟨⟨ms, h1⟩, ⟨info, h3, h4⟩, _, hc, _, _⟩ := K
    rw [show (10000 : Nat) = 9999 + 1 from rfl, Instr.checkKey]
    simp only [Sem.run_bind, run_underlying h1, Result.andThen, krun_ty h3 w, h4]
    exact hc w em a
  · obtain ⟨ms, h1⟩ := K.hk
    cases es with
    | nil => exact Or.inl ⟨by simp [Instr.findKey, run_underlying h1, Instr.findNow, Result.andThen], by simp⟩
    | cons e es =>
      have hf : (Instr.findKey kt (.iface ti (enc a)) (e :: es)).run P w = (Instr.findAsking kt (.iface ti (enc a)) (e :: es) 0).run P w := by
        obtain ⟨m, hm⟩ := hes e (by simp)
        simp [Instr.findKey, run_underlying h1, Instr.findNow, Instr.sameNow, hm, Result.andThen]
      rw [hf]
      rcases K.ask w a (e :: es) hes 0 with h | ⟨j, e0, h2, h3, h4⟩
      · exact Or.inl h
      · exact Or.inr ⟨j, e0, by simpa using h2, h3, h4⟩

/-- Numbers in interfaces. -/
theorem KIn.int {ti : TypeId} {q : IntKind} (hk : ∃ ms, P.underlying kt = some (.interface ms)) (hi : P.underlying ti = some (.int q)) (hc : (P.info? ti).map (·.comparable) = some true) : KIn P kt ti (fun n : Int => .int q n) := by
  obtain ⟨info, h3, h4⟩ := Option.map_eq_some_iff.1 hc
  refine ⟨hk, ⟨info, h3, h4⟩, fun a b h => by simpa using h, fun w em a => ?_, fun w a b => ?_, fun w a => ?_⟩
  · rw [show (9999 : Nat) = 9998 + 1 from rfl, Instr.checkKey]
    simp [run_underlying hi, Result.andThen]
  · rw [show (9999 : Nat) = 9998 + 1 from rfl, Op.equalIn]
    simp only [Sem.run_bind, run_underlying hi, Result.andThen, Sem.run_pure]
    by_cases h : a = b <;> simp [h]
  · unfold Instr.keyThatStays
    rw [show (10000 : Nat) = 9999 + 1 from rfl]
    simp [Instr.sameBits]

/-- BLOCK b OF w IS A MAP OF n ENTRIES, AND f SAYS WHAT STANDS AT EACH NUMBER. -/
def KMap (enc : α → Value) (w : World) (b : Nat) (f : α → Option Value) (n : Nat) : Prop :=
  ∃ es clock, w.heap[b]? = some (.map es clock) ∧ Stamped es clock ∧ (∀ x ∈ es.toList, ∃ k, x.key = enc k) ∧ (∀ k v, f k = some v ↔ ∃ x ∈ es.toList, x.key = enc k ∧ x.val = v) ∧ es.size = n

theorem KMap.made (enc : α → Value) (w : World) : KMap enc (w.alloc (.map #[] 0)) w.heap.size (fun _ => none) 0 :=
  ⟨#[], 0, (heap_alloc w _).1, stamped_empty 0, by simp, by simp, rfl⟩
theorem KMap.lt {w : World} {b n : Nat} {f : α → Option Value} (h : KMap enc w b f n) : b < w.heap.size := by
  obtain ⟨es, clock, hb, _⟩ := h
  exact (Array.getElem?_eq_some_iff.1 hb).1
theorem KMap.keep {w w' : World} {b n : Nat} {f : α → Option Value} (h : KMap enc w b f n) (hb : w'.heap[b]? = w.heap[b]?) : KMap enc w' b f n := by
  obtain ⟨es, clock, h1, h2⟩ := h
  exact ⟨es, clock, hb.trans h1, h2⟩

/-- m[k], and m[k] with ok. -/
theorem KMap.look {w : World} {b n : Nat} {f : α → Option Value} (h : KMap enc w b f n) (K : KEnc P kt enc) {t e : TypeId} (ht : P.underlying t = some (.map kt e)) {z : Value} (hz : (zeroValue e).run P w = .ok z w) (c : Bool) (k : α) :
    (Instr.lookup t (.map (some b)) (enc k) c).run P w = .ok (if c then .tuple #[(f k).getD z, .bool (f k).isSome] else (f k).getD z) w := by
  obtain ⟨es, clock, hb, hs, hk, hf, hn⟩ := h
  rcases K.find w k es.toList hk with ⟨h1, h2⟩ | ⟨j, e0, h1, h2, h3⟩
  · have hnone : f k = none := by
      cases hv : f k with
      | none => rfl
      | some v =>
        obtain ⟨x, hx, hx1, _⟩ := (hf k v).1 hv
        exact absurd hx1 (h2 x hx)
    simp [Instr.lookup, run_underlying ht, MapKept.run_getObj_map hb, K.check w _ k, h1, hz, Result.andThen, hnone]
  · have hsome : f k = some e0.val := (hf k _).2 ⟨e0, List.mem_of_getElem? h2, h3, rfl⟩
    simp [Instr.lookup, run_underlying ht, MapKept.run_getObj_map hb, K.check w _ k, h1, Result.andThen, hsome]

/-- m[k] = v. -/
theorem KMap.store [DecidableEq α] {w : World} {b n : Nat} {f : α → Option Value} (h : KMap enc w b f n) (K : KEnc P kt enc) {t e : TypeId} (ht : P.underlying t = some (.map kt e)) (k : α) (v : Value) :
    ∃ o, (Instr.mapUpdate t (.map (some b)) (enc k) v).run P w = .ok () { w with heap := w.heap.setIfInBounds b o } ∧ KMap enc { w with heap := w.heap.setIfInBounds b o } b (fun x => if x = k then some v else f x) (if (f k).isSome then n else n + 1) := by
  have hlt := h.lt
  obtain ⟨es, clock, hb, hs, hk, hf, hn⟩ := h
  have hset : ∀ o, ({ w with heap := w.heap.setIfInBounds b o } : World).heap[b]? = some o := fun o => by simp [hlt]
  have hinj : ∀ x y : α, enc x = enc y → x = y := K.inj
  rcases K.find w k es.toList hk with ⟨h1, h2⟩ | ⟨j, e0, h1, h2, h3⟩
  · have hnone : f k = none := by
      cases hv : f k with
      | none => rfl
      | some v =>
        obtain ⟨x, hx, hx1, _⟩ := (hf k v).1 hv
        exact absurd hx1 (h2 x hx)
    refine ⟨.map (es.push ⟨enc k, v, clock⟩) (clock + 1), ?_, _, _, hset _, stamped_push hs h2, ?_, fun x u => ?_, by simp [hnone, hn]⟩
    · simp [Instr.mapUpdate, run_underlying ht, MapKept.run_getObj_map hb, K.check w _ k, h1, MapKept.run_setObj_map _ hb, Result.andThen]
    · intro x hx
      simp only [Array.toList_push, List.mem_append, List.mem_singleton] at hx
      rcases hx with hx | rfl
      · exact hk x hx
      · exact ⟨k, rfl⟩
    · simp only [Array.toList_push, List.mem_append, List.mem_singleton]
      by_cases hxk : x = k
      · subst hxk
        simp only [if_true, Option.some.injEq]
        constructor
        · rintro rfl; exact ⟨_, Or.inr rfl, rfl, rfl⟩
        · rintro ⟨y, hy | rfl, hy1, hy2⟩
          · exact absurd hy1 (h2 y hy)
          · exact hy2
      · simp only [hxk, if_false]
        rw [hf]
        constructor
        · rintro ⟨y, hy, hy1⟩; exact ⟨y, Or.inl hy, hy1⟩
        · rintro ⟨y, hy | rfl, hy1, hy2⟩
          · exact ⟨y, hy, hy1, hy2⟩
          · exact absurd (hinj _ _ hy1).symm hxk
  · have hj : es[j]? = some e0 := by simpa using h2
    have hjl : j < es.size := (Array.getElem?_eq_some_iff.1 hj).1
    have hsome : f k = some e0.val := (hf k _).2 ⟨e0, List.mem_of_getElem? h2, h3, rfl⟩
    have hkeyf : ∀ e', es[j]? = some e' → ({ e' with key := enc k, val := v } : MapEntry).key = e'.key := fun e' he' => by rw [hj] at he'; cases he'; exact h3.symm
    refine ⟨.map (es.modify j (fun e' => { e' with key := enc k, val := v })) clock, ?_, _, _, hset _, stamped_modify hs _ _ (fun _ _ => rfl) (fun e' _ he' => hkeyf e' he'), ?_, fun x u => ?_, by simp [hsome, hn]⟩
    · simp [Instr.mapUpdate, run_underlying ht, MapKept.run_getObj_map hb, K.check w _ k, h1, hj, h3, K.stays w k, MapKept.run_setObj_map _ hb, Result.andThen]
    · intro x hx
      rcases MapFrom.mem_modify hx with hx | ⟨e', _, rfl⟩
      · exact hk x hx
      · exact ⟨k, rfl⟩
    · have hmem : ∀ y, y ∈ (es.modify j (fun e' => { e' with key := enc k, val := v })).toList ↔ ∃ i, (es.modify j (fun e' => { e' with key := enc k, val := v }))[i]? = some y := fun y => by
        rw [Array.mem_toList_iff, Array.mem_iff_getElem?]
      have hget : ∀ i, (es.modify j (fun e' => { e' with key := enc k, val := v }))[i]? = if i = j then some { e0 with key := enc k, val := v } else es[i]? := fun i => by
        rw [Array.getElem?_modify]
        by_cases hij : i = j
        · subst hij; simp [hj]
        · simp [hij, Ne.symm hij]
      have huniq : ∀ i y, es[i]? = some y → y.key = enc k → i = j := fun i y hi hy => by
        have hp := ((stamped_iff es clock).1 hs).2.2
        by_cases hij : i = j
        · exact hij
        · exfalso
          rw [List.pairwise_iff_getElem] at hp
          have hil : i < es.size := (Array.getElem?_eq_some_iff.1 hi).1
          have ei : es[i] = y := by simpa [hil] using hi
          have ej : es[j] = e0 := by simpa [hjl] using hj
          rcases Nat.lt_or_gt_of_ne hij with hlt' | hlt'
          · have := hp i j (by simpa using hil) (by simpa using hjl) hlt'
            simp [ei, ej, hy, h3] at this
          · have := hp j i (by simpa using hjl) (by simpa using hil) hlt'
            simp [ei, ej, hy, h3] at this
      constructor
      · intro hx
        by_cases hxk : x = k
        · subst hxk
          simp only [if_true, Option.some.injEq] at hx
          subst hx
          exact ⟨_, (hmem _).2 ⟨j, by rw [hget, if_pos rfl]⟩, rfl, rfl⟩
        · simp only [hxk, if_false] at hx
          obtain ⟨y, hy, hy1, hy2⟩ := (hf x u).1 hx
          obtain ⟨i, hi⟩ := List.mem_iff_getElem?.1 hy
          have hi' : es[i]? = some y := by simpa using hi
          have hij : i ≠ j := fun e => by
            subst e
            rw [hj] at hi'
            cases hi'
            rw [h3] at hy1
            exact hxk (hinj _ _ hy1).symm
          exact ⟨y, (hmem _).2 ⟨i, by rw [hget, if_neg hij]; exact hi'⟩, hy1, hy2⟩
      · rintro ⟨y, hy, hy1, hy2⟩
        obtain ⟨i, hi⟩ := (hmem y).1 hy
        rw [hget] at hi
        by_cases hij : i = j
        · rw [if_pos hij] at hi
          cases hi
          have := hinj _ _ hy1
          subst this
          simp only [if_true]
          exact congrArg some hy2
        · rw [if_neg hij] at hi
          have hxk : x ≠ k := fun e => by
            subst e
            exact hij (huniq i y hi hy1)
          simp only [hxk, if_false]
          exact (hf x u).2 ⟨y, List.mem_of_getElem? (by simpa using hi), hy1, hy2⟩

/-- delete(m, k). -/
theorem KMap.drop [DecidableEq α] {w : World} {b n : Nat} {f : α → Option Value} (h : KMap enc w b f n) (K : KEnc P kt enc) {t e : TypeId} (ht : P.underlying t = some (.map kt e)) (k : α) (ty : TypeId) :
    ∃ o, (Builtin.delete_ #[t, kt] ty #[.map (some b), enc k]).run P w = .ok (.tuple #[]) { w with heap := w.heap.setIfInBounds b o } ∧ KMap enc { w with heap := w.heap.setIfInBounds b o } b (fun x => if x = k then none else f x) (if (f k).isSome then n - 1 else n) := by
  have hlt := h.lt
  obtain ⟨es, clock, hb, hs, hk, hf, hn⟩ := h
  have hset : ∀ o, ({ w with heap := w.heap.setIfInBounds b o } : World).heap[b]? = some o := fun o => by simp [hlt]
  rcases K.find w k es.toList hk with ⟨h1, h2⟩ | ⟨j, e0, h1, h2, h3⟩
  · have hnone : f k = none := by
      cases hv : f k with
      | none => rfl
      | some v =>
        obtain ⟨x, hx, hx1, _⟩ := (hf k v).1 hv
        exact absurd hx1 (h2 x hx)
    refine ⟨.map es clock, ?_, es, clock, hset _, hs, hk, fun x u => ?_, by simp [hnone, hn]⟩
    · simp [Builtin.delete_, run_underlying ht, MapKept.run_getObj_map hb, K.check w _ k, h1, MapKept.run_setObj_map _ hb, Result.andThen]
    · by_cases hx : x = k
      · subst hx
        simp only [if_true]
        constructor
        · intro h; cases h
        · rintro ⟨y, hy, hy1, _⟩; exact absurd hy1 (h2 y hy)
      · simp only [hx, if_false]
        exact hf x u
  · have hjl : j < es.toList.length := (List.getElem?_eq_some_iff.1 h2).1
    have hjs : j < es.size := by simpa using hjl
    have hsub : (es.eraseIdxIfInBounds j).toList = es.toList.eraseIdx j := by
      unfold Array.eraseIdxIfInBounds
      rw [dif_pos hjs]
      simp
    have hsome : f k = some e0.val := (hf k _).2 ⟨e0, List.mem_of_getElem? h2, h3, rfl⟩
    have hp := ((stamped_iff es clock).1 hs).2.2
    have hoth : ∀ x, x ∈ (es.eraseIdxIfInBounds j).toList ↔ x ∈ es.toList ∧ x.key ≠ enc k := fun x => by
      rw [hsub, List.mem_eraseIdx_iff_getElem?]
      rw [List.pairwise_iff_getElem] at hp
      have hjk : (es.toList[j]'hjl).key = enc k := by
        have e : es.toList[j]'hjl = e0 := by
          rw [List.getElem?_eq_getElem hjl] at h2
          exact Option.some.inj h2
        rw [e]; exact h3
      constructor
      · rintro ⟨i, hne, hi⟩
        have hil := (List.getElem?_eq_some_iff.1 hi).1
        have hie : es.toList[i]'hil = x := by
          rw [List.getElem?_eq_getElem hil] at hi
          exact Option.some.inj hi
        refine ⟨List.mem_of_getElem? hi, fun e => ?_⟩
        rcases Nat.lt_or_gt_of_ne hne with hlt' | hlt'
        · exact hp i j hil hjl hlt' (by rw [hie, hjk, e])
        · exact hp j i hjl hil hlt' (by rw [hie, hjk, e])
      · rintro ⟨hx, hne⟩
        obtain ⟨i, hi⟩ := List.mem_iff_getElem?.1 hx
        refine ⟨i, fun e => ?_, hi⟩
        subst e
        rw [h2] at hi
        cases hi
        exact hne h3
    refine ⟨.map (es.eraseIdxIfInBounds j) clock, ?_, _, clock, hset _, stamped_erase hs j, fun x hx => hk x ((hoth x).1 hx).1, fun x u => ?_, ?_⟩
    · simp [Builtin.delete_, run_underlying ht, MapKept.run_getObj_map hb, K.check w _ k, h1, MapKept.run_setObj_map _ hb, Result.andThen]
    · by_cases hx : x = k
      · subst hx
        simp only [if_true]
        constructor
        · intro h; cases h
        · rintro ⟨y, hy, hy1, _⟩; exact absurd hy1 ((hoth y).1 hy).2
      · simp only [hx, if_false]
        rw [hf]
        constructor
        · rintro ⟨y, hy, hy1, hy2⟩
          exact ⟨y, (hoth y).2 ⟨hy, fun e => hx (K.inj _ _ (hy1.symm.trans e))⟩, hy1, hy2⟩
        · rintro ⟨y, hy, hy1, hy2⟩
          exact ⟨y, ((hoth y).1 hy).1, hy1, hy2⟩
    · have hsz : (es.eraseIdxIfInBounds j).size = es.size - 1 := by
        unfold Array.eraseIdxIfInBounds
        rw [dif_pos hjs]
        simp
      simp [hsome, hsz, hn]

/-- len(m). -/
theorem KMap.len {w : World} {b n : Nat} {f : α → Option Value} (h : KMap enc w b f n) {t e : TypeId} (ht : P.underlying t = some (.map kt e)) (ty : TypeId) : (Builtin.len_ #[t] ty #[.map (some b)]).run P w = .ok (goInt n) w := by
  obtain ⟨es, clock, hb, hs, hk, hf, hn⟩ := h
  simp [Builtin.len_, run_underlying ht, MapKept.run_getObj_map hb, Result.andThen, hn]
/-- Behind some rounds of a range over the map: done are the keys that came, in their order. -/
def KRange (enc : α → Value) (w : World) (b r : Nat) (f : α → Option Value) (n : Nat) (done : List α) : Prop :=
  ∃ es clock since seen c0, w.heap[b]? = some (.map es clock) ∧ Stamped es clock ∧ (∀ x ∈ es.toList, ∃ k, x.key = enc k) ∧ (∀ k v, f k = some v ↔ ∃ x ∈ es.toList, x.key = enc k ∧ x.val = v) ∧ es.size = n ∧
    w.heap[r]? = some (.mapIter (some b) since seen c0) ∧ (∀ x ∈ es.toList, x.born < since) ∧ since ≤ c0 ∧ since ≤ clock ∧ done.Nodup ∧ (∀ k ∈ done, (f k).isSome = true) ∧ (∀ x ∈ es.toList, ∀ k, x.key = enc k → (seen.contains x.born = true ↔ k ∈ done)) ∧ seen.size = done.length

theorem KRange.map {w : World} {b r n : Nat} {f : α → Option Value} {done : List α} (h : KRange enc w b r f n done) : KMap enc w b f n := by
  obtain ⟨es, clock, since, seen, c0, h1, h2, h3, h4, h5, _⟩ := h
  exact ⟨es, clock, h1, h2, h3, h4, h5⟩
theorem KRange.keep {w w' : World} {b r n : Nat} {f : α → Option Value} {done : List α} (h : KRange enc w b r f n done) (hb : w'.heap[b]? = w.heap[b]?) (hr : w'.heap[r]? = w.heap[r]?) : KRange enc w' b r f n done := by
  obtain ⟨es, clock, since, seen, c0, h1, h2, h3, h4, h5, h6, h7⟩ := h
  exact ⟨es, clock, since, seen, c0, hb.trans h1, h2, h3, h4, h5, hr.trans h6, h7⟩

theorem KMap.range {w : World} {b n : Nat} {f : α → Option Value} (h : KMap enc w b f n) {t e : TypeId} (ht : P.underlying t = some (.map kt e)) :
    ∃ w', (Instr.range t (.map (some b))).run P w = .ok (.pointer (some ⟨w.heap.size, 0, none⟩)) w' ∧ KRange enc w' b w.heap.size f n [] ∧ w.grownBy w' none ∧ w'.heap.size = w.heap.size + 1 := by
  have hlt := h.lt
  obtain ⟨es, clock, hb, hs, hk, hf, hn⟩ := h
  exact ⟨_, run_range_map w t kt e b es clock ht hb, ⟨es, clock, clock, #[], clock, ((heap_alloc w _).2 b hlt).trans hb, hs, hk, hf, hn, (heap_alloc w _).1, hs.1, Nat.le_refl _, Nat.le_refl _, by simp, by simp, by simp, rfl⟩, World.grownBy_alloc w _ none, by simp⟩

theorem KRange.next {w : World} {b r n : Nat} {f : α → Option Value} {done : List α} (h : KRange enc w b r f n done) (hinj : ∀ a b, enc a = enc b → a = b) (ty : TypeId) :
    ((∀ k, (f k).isSome = true → k ∈ done) ∧ (Instr.next (.pointer (some ⟨r, 0, none⟩)) false ty).run P w = .ok (.tuple #[.bool false]) w) ∨
    ∃ k v w', f k = some v ∧ k ∉ done ∧ (Instr.next (.pointer (some ⟨r, 0, none⟩)) false ty).run P w = .ok (.tuple #[.bool true, enc k, v]) w' ∧ KRange enc w' b r f n (done ++ [k]) ∧ w.grownBy w' (some r) ∧ w'.heap.size = w.heap.size ∧
      (Instr.entry (.pointer (some ⟨r, 0, none⟩))).run P w' = .ok (.tuple #[enc k, v]) w' := by
  obtain ⟨es, clock, since, seen, c0, hb, hs, hk, hf, hn, hr, hold, hsc, hsk, hnd, hdo, hse, hss⟩ := h
  have hne : b ≠ r := fun e => by rw [e, hr] at hb; cases hb
  have hst := (stamped_iff es clock).1 hs
  rcases run_next_at (P := P) w ty r b since c0 seen es clock hr hb hold hsc with ⟨h0, hrun⟩ | ⟨e, he, w1, hal, hrun⟩
  · refine Or.inl ⟨fun k hks => ?_, hrun⟩
    obtain ⟨v, hv⟩ := Option.isSome_iff_exists.1 hks
    obtain ⟨x, hx, hx1, _⟩ := (hf k v).1 hv
    exact (hse x hx k hx1).1 (all_seen es seen h0 x hx)
  · obtain ⟨hem, hes⟩ := mem_left he
    obtain ⟨k, hkk⟩ := hk e hem
    have hr1 : w1.heap[r]? = some (.mapIter (some b) since seen c0) := by rcases hal with rfl | rfl <;> exact hr
    have hb1 : w1.heap[b]? = some (.map es clock) := by rcases hal with rfl | rfl <;> exact hb
    have hset := heap_set (o' := .mapIter (some b) since (seen.push e.born) clock) hr1
    have hb' : (setBlock w1 r (.mapIter (some b) since (seen.push e.born) clock)).heap[b]? = some (.map es clock) := (hset.2 b hne).trans hb1
    have hfk : f k = some e.val := (hf k _).2 ⟨e, hem, hkk, rfl⟩
    have hnk : k ∉ done := fun hd => by
      have := (hse e hem k hkk).2 hd
      rw [hes] at this
      cases this
    rw [hkk] at hrun
    have hent := run_entry_at (P := P) _ r b since seen es clock e hset.1 hb' hem hst.2.1
    rw [hkk] at hent
    refine Or.inr ⟨k, e.val, _, hfk, hnk, hrun, ⟨es, clock, since, seen.push e.born, clock, hb', hs, hk, hf, hn, hset.1, hold, hsk, hsk, ?_, ?_, ?_, by simp [hss]⟩, ?_, ?_, hent⟩
    · rw [List.nodup_append]
      refine ⟨hnd, by simp, fun a ha c hc => ?_⟩
      simp only [List.mem_singleton] at hc
      subst hc
      exact fun e => hnk (e ▸ ha)
    · intro x hx
      rcases List.mem_append.1 hx with hx | hx
      · exact hdo x hx
      · simp only [List.mem_singleton] at hx
        subst hx
        simp [hfk]
    · intro x hx k' hk'
      rw [contains_push]
      by_cases hxe : x = e
      · subst hxe
        rw [hkk] at hk'
        obtain rfl := hinj _ _ hk'
        simp
      · have hbn : (x.born == e.born) = false := by
          simp only [beq_eq_false_iff_ne, ne_eq]
          exact fun eb => hxe (born_inj hst.2.1 hx hem eb)
        have hkn : k' ≠ k := fun ek => by
          subst ek
          exact hxe (entry_eq_of_key hst.2.2 hx hem (hk'.trans hkk.symm))
        rw [hbn]
        have h9 := hse x hx k' hk'
        rw [Bool.or_false, h9]
        simp [hkn]
    · rcases hal with rfl | rfl <;> exact ⟨rfl, rfl, rfl, by simp [setBlock], fun i _ hi => hset.2 i (fun e1 => hi (by rw [e1]))⟩
    · rcases hal with rfl | rfl <;> simp [setBlock]

theorem keys_of (es : List MapEntry) (hk : ∀ x ∈ es, ∃ k, x.key = enc k) : ∃ ks : List α, es.map (·.key) = ks.map enc := by
  induction es with
  | nil => exact ⟨[], rfl⟩
  | cons e es ih =>
    obtain ⟨k, h⟩ := hk e (by simp)
    obtain ⟨ks, h2⟩ := ih (fun x hx => hk x (by simp [hx]))
    exact ⟨k :: ks, by simp [h, h2]⟩
theorem nodup_sub [DecidableEq α] : ∀ (l m : List α), l.Nodup → (∀ x ∈ l, x ∈ m) → l.length ≤ m.length
  | [], _, _, _ => Nat.zero_le _
  | a :: l, m, h, hs => by
    have ha := hs a (by simp)
    obtain ⟨h1, h2⟩ := List.nodup_cons.1 h
    have h3 := nodup_sub l (m.erase a) h2 (fun x hx => (List.mem_erase_of_ne (fun e : x = a => h1 (by rw [← e]; exact hx))).2 (hs x (by simp [hx])))
    rw [List.length_erase_of_mem ha] at h3
    have h4 : 0 < m.length := List.length_pos_of_mem ha
    simp
    omega
/-- The keys of a map, each once. -/
theorem KMap.keys {w : World} {b n : Nat} {f : α → Option Value} (h : KMap enc w b f n) (hinj : ∀ a b, enc a = enc b → a = b) : ∃ ks : List α, ks.Nodup ∧ ks.length = n ∧ ∀ k, k ∈ ks ↔ (f k).isSome = true := by
  obtain ⟨es, clock, hb, hs, hk, hf, hn⟩ := h
  have hst := (stamped_iff es clock).1 hs
  obtain ⟨ks, hks⟩ := keys_of es.toList hk
  have hm : ∀ k, k ∈ ks ↔ ∃ x ∈ es.toList, x.key = enc k := fun k => by
    constructor
    · intro h
      have : enc k ∈ es.toList.map (·.key) := by rw [hks]; exact List.mem_map.2 ⟨k, h, rfl⟩
      obtain ⟨x, hx, e⟩ := List.mem_map.1 this
      exact ⟨x, hx, e⟩
    · rintro ⟨x, hx, e⟩
      have : enc k ∈ ks.map enc := by rw [← hks]; exact List.mem_map.2 ⟨x, hx, e⟩
      obtain ⟨k', hk', e'⟩ := List.mem_map.1 this
      rw [← hinj _ _ e']
      exact hk'
  refine ⟨ks, ?_, ?_, fun k => ?_⟩
  · have h2 : (ks.map enc).Nodup := by
      rw [← hks, List.Nodup, List.pairwise_map]
      exact hst.2.2
    rw [List.Nodup, List.pairwise_map] at h2
    exact h2.imp fun hne e => hne (by rw [e])
  · have := congrArg List.length hks
    simp at this
    omega
  · rw [hm]
    constructor
    · rintro ⟨x, hx, e⟩
      rw [(hf k x.val).2 ⟨x, hx, e, rfl⟩]
      rfl
    · intro h
      obtain ⟨v, hv⟩ := Option.isSome_iff_exists.1 h
      obtain ⟨x, hx, hx1, _⟩ := (hf k v).1 hv
      exact ⟨x, hx, hx1⟩
theorem KRange.count [DecidableEq α] {w : World} {b r n : Nat} {f : α → Option Value} {done : List α} (h : KRange enc w b r f n done) (hinj : ∀ a b, enc a = enc b → a = b) : done.length ≤ n ∧ ((∀ k, (f k).isSome = true → k ∈ done) → done.length = n) := by
  obtain ⟨ks, h1, h2, h3⟩ := h.map.keys hinj
  obtain ⟨es, clock, since, seen, c0, hb, hs, hk, hf, hn, hr, hold, hsc, hsk, hnd, hdo, hse, hss⟩ := h
  have l1 := nodup_sub done ks hnd (fun k hk => (h3 k).2 (hdo k hk))
  refine ⟨by omega, fun hall => ?_⟩
  have l2 := nodup_sub ks done h1 (fun k hk => hall k ((h3 k).1 hk))
  omega
/-- How many entries have come. -/
def World.came (w : World) (r : Nat) : Nat := match w.heap[r]? with | some (.mapIter _ _ seen _) => seen.size | _ => 0
theorem KRange.came {w : World} {b r n : Nat} {f : α → Option Value} {done : List α} (h : KRange enc w b r f n done) : World.came w r = done.length := by
  obtain ⟨es, clock, since, seen, c0, hb, hs, hk, hf, hn, hr, hold, hsc, hsk, hnd, hdo, hse, hss⟩ := h
  simp [World.came, hr, hss]
theorem KRange.nodup {w : World} {b r n : Nat} {f : α → Option Value} {done : List α} (h : KRange enc w b r f n done) : done.Nodup ∧ (∀ k ∈ done, (f k).isSome = true) ∧ b < w.heap.size ∧ r < w.heap.size ∧ b ≠ r := by
  obtain ⟨es, clock, since, seen, c0, h1, h2, h3, h4, h5, h6, h7, h8, h9, h10, h11, h12⟩ := h
  exact ⟨h10, h11, (Array.getElem?_eq_some_iff.1 h1).1, (Array.getElem?_eq_some_iff.1 h6).1, fun e => by rw [e, h6] at h1; cases h1⟩
variable (w : World) {ops : Array Oper} {rest : List Oper} {o : Oper} {a : Act} {Q : Exit → Act → World → Prop}

theorem kgrown_set {w : World} {b : Nat} (x : Obj) (hb : b < w.heap.size) : w.grownBy { w with heap := w.heap.setIfInBounds b x } (some b) := by
  refine ⟨rfl, rfl, rfl, by simp, fun k hk hne => ?_⟩
  have hkb : b ≠ k := fun e => hne (by rw [e])
  simp [Array.getElem?_setIfInBounds_ne hkb]

theorem wpList_klook_ok (hg : o.guard = none) (m x : Operand) (t : TypeId) (hop : o.op = Op.lookup t m x true) (e : TypeId) (K : KEnc P kt enc) (ht : P.underlying t = some (.map kt e)) {z : Value} (hz : (zeroValue e).run P w = .ok z w) (b n : Nat) (f : α → Option Value)
    (hm : a.eval m = .map (some b)) (hown : KMap enc w b f n) (k : α) (hx : a.eval x = enc k)
    (hK : wpList P ops Q rest (a.put o.dst (.tuple #[(f k).getD z, .bool (f k).isSome])) w) : wpList P ops Q (o :: rest) a w := by
  refine wpList_plain hg fun K' hK' => ?_
  have hrun := hown.look K ht hz true k
  unfold Oper.wp
  simp [execOp, hop, hm, hx, hrun, Result.andThen]
  exact hK' _ _ hK

theorem wpList_klook (hg : o.guard = none) (m x : Operand) (t : TypeId) (hop : o.op = Op.lookup t m x false) (e : TypeId) (K : KEnc P kt enc) (ht : P.underlying t = some (.map kt e)) {z : Value} (hz : (zeroValue e).run P w = .ok z w) (b n : Nat) (f : α → Option Value)
    (hm : a.eval m = .map (some b)) (hown : KMap enc w b f n) (k : α) (hx : a.eval x = enc k)
    (hK : wpList P ops Q rest (a.put o.dst ((f k).getD z)) w) : wpList P ops Q (o :: rest) a w := by
  refine wpList_plain hg fun K' hK' => ?_
  have hrun := hown.look K ht hz false k
  unfold Oper.wp
  simp [execOp, hop, hm, hx, hrun, Result.andThen]
  exact hK' _ _ hK

theorem wpList_kstore [DecidableEq α] (hg : o.guard = none) (m x v : Operand) (t : TypeId) (hop : o.op = Op.mapUpdate t m x v) (e : TypeId) (K : KEnc P kt enc) (ht : P.underlying t = some (.map kt e)) (b n : Nat) (f : α → Option Value)
    (hm : a.eval m = .map (some b)) (hown : KMap enc w b f n) (k : α) (hx : a.eval x = enc k) (val : Value) (hv : a.eval v = val)
    (hK : ∀ w', KMap enc w' b (fun y => if y = k then some val else f y) (if (f k).isSome then n else n + 1) → w.grownBy w' (some b) → w'.heap.size = w.heap.size → wpList P ops Q rest (a.put o.dst undef) w') : wpList P ops Q (o :: rest) a w := by
  refine wpList_plain hg fun K' hK' => ?_
  obtain ⟨ob, hrun, h2⟩ := hown.store K ht k val
  unfold Oper.wp
  simp [execOp, hop, hm, hx, hv, hrun, Result.andThen]
  exact hK' _ _ (hK _ h2 (kgrown_set ob hown.lt) (by simp))

theorem wpList_kdrop [DecidableEq α] (hg : o.guard = none) (m x : Operand) (t : TypeId) (hop : o.op = .call { callee := .builtin .delete, args := #[m, x], argTypes := #[t, kt] }) (e : TypeId) (K : KEnc P kt enc) (ht : P.underlying t = some (.map kt e)) (b n : Nat) (f : α → Option Value)
    (hm : a.eval m = .map (some b)) (hown : KMap enc w b f n) (k : α) (hx : a.eval x = enc k)
    (hK : ∀ w', KMap enc w' b (fun y => if y = k then none else f y) (if (f k).isSome then n - 1 else n) → w.grownBy w' (some b) → w'.heap.size = w.heap.size → wpList P ops Q rest (a.put o.dst (.tuple #[])) w') : wpList P ops Q (o :: rest) a w := by
  refine wpList_plain hg fun K' hK' => ?_
  obtain ⟨ob, hrun, h2⟩ := hown.drop K ht k o.type
  unfold Oper.wp
  simp [execOp, hop, resolve, invoke, builtin, hm, hx, hrun, Result.andThen]
  exact hK' _ _ (hK _ h2 (kgrown_set ob hown.lt) (by simp))
theorem wpList_krange (hg : o.guard = none) (m : Operand) (t : TypeId) (hop : o.op = Op.range t m) (e : TypeId) (ht : P.underlying t = some (.map kt e)) (b n : Nat) (f : α → Option Value)
    (hm : a.eval m = .map (some b)) (hown : KMap enc w b f n) (r : Nat) (hr : w.heap.size = r)
    (hK : ∀ w', KRange enc w' b r f n [] → w.grownBy w' none → w'.heap.size = r + 1 → wpList P ops Q rest (a.put o.dst (.pointer (some ⟨r, 0, none⟩))) w') :
    wpList P ops Q (o :: rest) a w := by
  subst hr
  refine wpList_plain hg fun K' hK' => ?_
  obtain ⟨w', hrun, r1, r2, r3⟩ := hown.range ht
  unfold Oper.wp
  simp [execOp, hop, hm, hrun, Result.andThen]
  exact hK' _ _ (hK w' r1 r2 r3)

theorem wpList_knext [DecidableEq α] (K : KEnc P kt enc) (hg : o.guard = none) (it : Operand) (hop : o.op = Op.next it false) (b r n : Nat) (f : α → Option Value) (done : List α)
    (hit : a.eval it = .pointer (some ⟨r, 0, none⟩)) (h : KRange enc w b r f n done)
    (hDone : done.length = n → (∀ k, (f k).isSome = true → k ∈ done) → wpList P ops Q rest (a.put o.dst (.tuple #[.bool false])) w)
    (hMore : ∀ k v w', f k = some v → k ∉ done → done.length < n → KRange enc w' b r f n (done ++ [k]) → w.grownBy w' (some r) → w'.heap.size = w.heap.size → (Instr.entry (.pointer (some ⟨r, 0, none⟩))).run P w' = .ok (.tuple #[enc k, v]) w' →
      wpList P ops Q rest (a.put o.dst (.tuple #[.bool true, enc k, v])) w') : wpList P ops Q (o :: rest) a w := by
  refine wpList_plain hg fun K' hK' => ?_
  unfold Oper.wp
  rcases h.next (P := P) K.inj o.type with ⟨h0, hrun⟩ | ⟨k, v, w', hf, hn, hrun, hr, hgr, hsz, hen⟩
  · simp [execOp, hop, hit, hrun, Result.andThen]
    exact hK' _ _ (hDone ((h.count K.inj).2 h0) h0)
  · have hlt := (hr.count K.inj).1
    simp at hlt
    simp [execOp, hop, hit, hrun, Result.andThen]
    exact hK' _ _ (hMore k v w' hf hn (by omega) hr hgr hsz hen)
end Go.Proofs.YtpkeiankocimaaaDoor
