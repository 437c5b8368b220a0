/- MAPS KEYED BY INTERFACES: range over such a map. -/
import Derived.Test.YtjifdcklmpibpaaDoorIW
import Derived.Maps.RangeWalk
namespace Go.Proofs.YtjifdcklmpibpaaDoor
open Go.MapKept Go.Maps
open Go.ChangeMaps (setBlock)
set_option linter.unusedVariables false
variable {P : Program} {kt ti : TypeId} {q : IntKind}

theorem nodup_le : ∀ (l m : List Int), l.Nodup → (∀ x ∈ l, x ∈ m) → l.length ≤ m.length
  | [], _, _, _ => Nat.zero_le _
  | a :: l, m, h, hs => by
    have ha := hs a (by simp)
    obtain ⟨h1, h2⟩ := List.nodup_cons.1 h
    have h3 := nodup_le l (m.erase a) h2 (fun x hx => (List.mem_erase_of_ne (fun e : x = a => h1 (by rw [← e]; exact hx))).2 (hs x (by simp [hx])))
    rw [List.length_erase_of_mem ha] at h3
    have h4 : 0 < m.length := List.length_pos_of_mem ha
    simp
    omega
def kint : Value → Int
  | .iface _ (.int _ x) => x
  | _ => 0

/-- Behind some rounds of a range over the map: done are the keys that came, in their order. -/
def IRange (ti : TypeId) (q : IntKind) (w : World) (b r : Nat) (f : Int → Option Value) (n : Nat) (done : List Int) : Prop :=
  ∃ es clock since seen c0, w.heap[b]? = some (.map es clock) ∧ Stamped es clock ∧ (∀ x ∈ es.toList, ∃ k, x.key = ik ti q k) ∧ (∀ k v, f k = some v ↔ ∃ x ∈ es.toList, x.key = ik ti q k ∧ x.val = v) ∧ es.size = n ∧
    w.heap[r]? = some (.mapIter (some b) since seen c0) ∧ (∀ x ∈ es.toList, x.born < since) ∧ since ≤ c0 ∧ since ≤ clock ∧ done.Nodup ∧ (∀ k ∈ done, (f k).isSome = true) ∧ (∀ x ∈ es.toList, ∀ k, x.key = ik ti q k → (seen.contains x.born = true ↔ k ∈ done))

theorem IRange.map {w : World} {b r n : Nat} {f : Int → Option Value} {done : List Int} (h : IRange ti q w b r f n done) : IMap ti q w b f n := by
  obtain ⟨es, clock, since, seen, c0, h1, h2, h3, h4, h5, _⟩ := h
  exact ⟨es, clock, h1, h2, h3, h4, h5⟩
theorem IRange.keep {w w' : World} {b r n : Nat} {f : Int → Option Value} {done : List Int} (h : IRange ti q w b r f n done) (hb : w'.heap[b]? = w.heap[b]?) (hr : w'.heap[r]? = w.heap[r]?) : IRange ti q w' b r f n done := by
  obtain ⟨es, clock, since, seen, c0, h1, h2, h3, h4, h5, h6, h7⟩ := h
  exact ⟨es, clock, since, seen, c0, hb.trans h1, h2, h3, h4, h5, hr.trans h6, h7⟩

theorem IMap.range {w : World} {b n : Nat} {f : Int → Option Value} (h : IMap ti q w b f n) {t e : TypeId} (ht : P.underlying t = some (.map kt e)) :
    ∃ w', (Instr.range t (.map (some b))).run P w = .ok (.pointer (some ⟨w.heap.size, 0, none⟩)) w' ∧ IRange ti q w' b w.heap.size f n [] ∧ w.grownBy w' none ∧ w'.heap.size = w.heap.size + 1 := by
  have hlt := h.lt
  obtain ⟨es, clock, hb, hs, hk, hf, hn⟩ := h
  exact ⟨_, run_range_map w t kt e b es clock ht hb, ⟨es, clock, clock, #[], clock, ((heap_alloc w _).2 b hlt).trans hb, hs, hk, hf, hn, (heap_alloc w _).1, hs.1, Nat.le_refl _, Nat.le_refl _, by simp, by simp, by simp⟩, World.grownBy_alloc w _ none, by simp⟩

theorem IRange.next {w : World} {b r n : Nat} {f : Int → Option Value} {done : List Int} (h : IRange ti q w b r f n done) (ty : TypeId) :
    ((∀ k, (f k).isSome = true → k ∈ done) ∧ (Instr.next (.pointer (some ⟨r, 0, none⟩)) false ty).run P w = .ok (.tuple #[.bool false]) w) ∨
    ∃ k v w', f k = some v ∧ k ∉ done ∧ (Instr.next (.pointer (some ⟨r, 0, none⟩)) false ty).run P w = .ok (.tuple #[.bool true, ik ti q k, v]) w' ∧ IRange ti q w' b r f n (done ++ [k]) ∧ w.grownBy w' (some r) ∧ w'.heap.size = w.heap.size ∧
      (Instr.entry (.pointer (some ⟨r, 0, none⟩))).run P w' = .ok (.tuple #[ik ti q k, v]) w' := by
  obtain ⟨es, clock, since, seen, c0, hb, hs, hk, hf, hn, hr, hold, hsc, hsk, hnd, hdo, hse⟩ := h
  have hne : b ≠ r := fun e => by rw [e, hr] at hb; cases hb
  have hst := (stamped_iff es clock).1 hs
  rcases run_next_at (P := P) w ty r b since c0 seen es clock hr hb hold hsc with ⟨h0, hrun⟩ | ⟨e, he, w1, hal, hrun⟩
  · refine Or.inl ⟨fun k hks => ?_, hrun⟩
    obtain ⟨v, hv⟩ := Option.isSome_iff_exists.1 hks
    obtain ⟨x, hx, hx1, _⟩ := (hf k v).1 hv
    exact (hse x hx k hx1).1 (all_seen es seen h0 x hx)
  · obtain ⟨hem, hes⟩ := mem_left he
    obtain ⟨k, hkk⟩ := hk e hem
    have hr1 : w1.heap[r]? = some (.mapIter (some b) since seen c0) := by rcases hal with rfl | rfl <;> exact hr
    have hb1 : w1.heap[b]? = some (.map es clock) := by rcases hal with rfl | rfl <;> exact hb
    have hset := heap_set (o' := .mapIter (some b) since (seen.push e.born) clock) hr1
    have hb' : (setBlock w1 r (.mapIter (some b) since (seen.push e.born) clock)).heap[b]? = some (.map es clock) := (hset.2 b hne).trans hb1
    have hfk : f k = some e.val := (hf k _).2 ⟨e, hem, hkk, rfl⟩
    have hnk : k ∉ done := fun hd => by
      have := (hse e hem k hkk).2 hd
      rw [hes] at this
      cases this
    rw [hkk] at hrun
    have hent := run_entry_at (P := P) _ r b since seen es clock e hset.1 hb' hem hst.2.1
    rw [hkk] at hent
    refine Or.inr ⟨k, e.val, _, hfk, hnk, hrun, ⟨es, clock, since, seen.push e.born, clock, hb', hs, hk, hf, hn, hset.1, hold, hsk, hsk, ?_, ?_, ?_⟩, ?_, ?_, hent⟩
    · rw [List.nodup_append]
      refine ⟨hnd, by simp, fun a ha c hc => ?_⟩
      simp only [List.mem_singleton] at hc
      subst hc
      exact fun e => hnk (e ▸ ha)
    · intro x hx
      rcases List.mem_append.1 hx with hx | hx
      · exact hdo x hx
      · simp only [List.mem_singleton] at hx
        subst hx
        simp [hfk]
    · intro x hx k' hk'
      rw [contains_push]
      by_cases hxe : x = e
      · subst hxe
        rw [hkk] at hk'
        simp only [Value.iface.injEq, Value.int.injEq, true_and] at hk'
        subst hk'
        simp
      · have hbn : (x.born == e.born) = false := by
          simp only [beq_eq_false_iff_ne, ne_eq]
          exact fun eb => hxe (born_inj hst.2.1 hx hem eb)
        have hkn : k' ≠ k := fun ek => by
          subst ek
          exact hxe (entry_eq_of_key hst.2.2 hx hem (hk'.trans hkk.symm))
        rw [hbn]
        have h9 := hse x hx k' hk'
        rw [Bool.or_false, h9]
        simp [hkn]
    · rcases hal with rfl | rfl <;> exact ⟨rfl, rfl, rfl, by simp [setBlock], fun i _ hi => hset.2 i (fun e1 => hi (by rw [e1]))⟩
    · rcases hal with rfl | rfl <;> simp [setBlock]

theorem IRange.count {w : World} {b r n : Nat} {f : Int → Option Value} {done : List Int} (h : IRange ti q w b r f n done) : done.length ≤ n ∧ ((∀ k, (f k).isSome = true → k ∈ done) → done.length = n) := by
  obtain ⟨es, clock, since, seen, c0, hb, hs, hk, hf, hn, hr, hold, hsc, hsk, hnd, hdo, hse⟩ := h
  have hst := (stamped_iff es clock).1 hs
  have hl : (es.toList.map fun x => kint x.key).length = n := by simp [hn]
  have hin : ∀ k ∈ done, k ∈ es.toList.map fun x => kint x.key := fun k hkd => by
    obtain ⟨v, hv⟩ := Option.isSome_iff_exists.1 (hdo k hkd)
    obtain ⟨x, hx, hx1, _⟩ := (hf k v).1 hv
    exact List.mem_map.2 ⟨x, hx, by rw [hx1]; rfl⟩
  have h1 := nodup_le done _ hnd hin
  rw [hl] at h1
  refine ⟨h1, fun hall => ?_⟩
  have hnd2 : (es.toList.map fun x => kint x.key).Nodup := by
    rw [List.Nodup, List.pairwise_map]
    refine hst.2.2.imp_of_mem ?_
    intro x y hx hy hxy e
    obtain ⟨a, ha⟩ := hk x hx
    obtain ⟨c, hc⟩ := hk y hy
    rw [ha, hc] at e
    have : a = c := e
    exact hxy (by rw [ha, hc, this])
  have h2 := nodup_le _ done hnd2 (fun k hkm => by
    obtain ⟨x, hx, rfl⟩ := List.mem_map.1 hkm
    obtain ⟨a, ha⟩ := hk x hx
    have hfa : f a = some x.val := (hf a _).2 ⟨x, hx, ha, rfl⟩
    rw [ha]
    exact hall a (by simp [hfa]))
  rw [hl] at h2
  omega
theorem IRange.nodup {w : World} {b r n : Nat} {f : Int → Option Value} {done : List Int} (h : IRange ti q w b r f n done) : done.Nodup ∧ (∀ k ∈ done, (f k).isSome = true) ∧ b < w.heap.size ∧ r < w.heap.size ∧ b ≠ r := by
  obtain ⟨es, clock, since, seen, c0, h1, h2, h3, h4, h5, h6, h7, h8, h9, h10, h11, h12⟩ := h
  exact ⟨h10, h11, (Array.getElem?_eq_some_iff.1 h1).1, (Array.getElem?_eq_some_iff.1 h6).1, fun e => by rw [e, h6] at h1; cases h1⟩
end Go.Proofs.YtjifdcklmpibpaaDoor
