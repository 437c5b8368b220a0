/- PLAIN: entries that are inserted, over others, and asked. -/
import Derived.Test.YtlppnbmaedgodaaQ3
namespace Go.Proofs.Ytlppnbmaedgodaa
set_option linter.unusedVariables false
set_option linter.unusedSimpArgs false

def Dist (es : List (Int × Int)) : Prop := (es.map Prod.fst).Nodup
theorem dist_cons {e : Int × Int} {es : List (Int × Int)} (h : Dist (e :: es)) : Dist es ∧ ∀ x ∈ es, x.1 ≠ e.1 := by
  unfold Dist at h ⊢
  rw [List.map_cons, List.nodup_cons] at h
  exact ⟨h.2, fun x hx e2 => h.1 (List.mem_map.2 ⟨x, hx, e2⟩)⟩
theorem lget_ins_ne {L : List (Int × Int)} (ho : Ord L) {k v q : Int} (h : q ≠ k) : lget q (lins k v L) = lget q L := by
  rw [lget_lins k v q L ho, if_neg (fun e => h e.symm)]
theorem fin_get : ∀ {es L : List (Int × Int)}, Ord L → Dist es → (∀ e ∈ es, lget e.1 (finL L es) = some e.2) ∧ (∀ q, (∀ e ∈ es, e.1 ≠ q) → lget q (finL L es) = lget q L)
  | [], L, ho, hd => ⟨fun e h => (by cases h), fun q _ => rfl⟩
  | e :: es, L, ho, hd => by
    obtain ⟨h1, h2⟩ := dist_cons hd
    obtain ⟨i1, i2⟩ := fin_get (es := es) (L := lins e.1 e.2 L) (lins_ord ho) h1
    refine ⟨fun x hx => ?_, fun q hq => ?_⟩
    · rcases List.mem_cons.1 hx with rfl | hx
      · show lget x.1 (finL (lins x.1 x.2 L) es) = _
        rw [i2 x.1 h2, lget_lins x.1 x.2 x.1 L ho, if_pos rfl]
      · exact i1 x hx
    · show lget q (finL (lins e.1 e.2 L) es) = _
      rw [i2 q (fun x hx => hq x (by simp [hx])), lget_ins_ne ho (fun h => hq e (by simp) h.symm)]
theorem ans_dist : ∀ {es L : List (Int × Int)}, Ord L → Dist es → ansI L es = ansG L es
  | [], L, ho, hd => rfl
  | e :: es, L, ho, hd => by
    obtain ⟨h1, h2⟩ := dist_cons hd
    have ih := ans_dist (es := es) (L := lins e.1 e.2 L) (lins_ord ho) h1
    show (e.1, lget e.1 L) :: ansI (lins e.1 e.2 L) es = _
    rw [ih]
    simp only [ansG, List.map_cons, List.cons.injEq, true_and]
    exact List.map_congr_left fun x hx => by rw [lget_ins_ne ho (h2 x hx)]
theorem len_new : ∀ {es L : List (Int × Int)}, Ord L → Dist es → (∀ e ∈ es, lget e.1 L = none) → (finL L es).length = L.length + es.length
  | [], L, ho, hd, hn => rfl
  | e :: es, L, ho, hd, hn => by
    obtain ⟨h1, h2⟩ := dist_cons hd
    have ih := len_new (es := es) (L := lins e.1 e.2 L) (lins_ord ho) h1 (fun x hx => by rw [lget_ins_ne ho (h2 x hx)]; exact hn x (by simp [hx]))
    show (finL (lins e.1 e.2 L) es).length = _
    rw [ih, len_lins _ _ L ho, hn e (by simp)]
    simp
    omega
theorem len_over : ∀ {es L : List (Int × Int)}, Ord L → Dist es → (∀ e ∈ es, (lget e.1 L).isSome = true) → (finL L es).length = L.length
  | [], L, ho, hd, hn => rfl
  | e :: es, L, ho, hd, hn => by
    obtain ⟨h1, h2⟩ := dist_cons hd
    have ih := len_over (es := es) (L := lins e.1 e.2 L) (lins_ord ho) h1 (fun x hx => by rw [lget_ins_ne ho (h2 x hx)]; exact hn x (by simp [hx]))
    show (finL (lins e.1 e.2 L) es).length = _
    rw [ih, len_lins _ _ L ho, hn e (by simp)]
    simp
theorem any_key {es : List (Int × Int)} {x : Int} : es.any (fun e => decide (e.1 = x)) = true ↔ ∃ e ∈ es, e.1 = x := by simp
theorem dv_dist (more : Int) (xs : List Int) : Dist (dvL more xs) := by
  have h : ∀ (xs : List Int) (out : List (Int × Int)), Dist out → Dist (xs.foldl (dvAdd more) out) := fun xs => by
    induction xs with
    | nil => intro out h; exact h
    | cons x xs ih =>
      intro out h
      refine ih _ ?_
      unfold dvAdd
      split
      · exact h
      · rename_i hn
        unfold Dist at h ⊢
        rw [List.map_append, List.nodup_append]
        refine ⟨h, by simp, fun a ha b hb e => ?_⟩
        simp only [List.map_cons, List.map_nil, List.mem_singleton] at hb
        obtain ⟨y, hy, hy2⟩ := List.mem_map.1 ha
        exact hn (any_key.2 ⟨y, hy, by rw [hy2, e, hb]⟩)
  exact h xs [] (by simp [Dist])
theorem dv_more (m1 m2 : Int) (xs : List Int) : dvL m2 xs = (dvL m1 xs).map (fun e => (e.1, e.2 - m1 + m2)) := by
  have h : ∀ (xs : List Int) (o1 o2 : List (Int × Int)), o2 = o1.map (fun e => (e.1, e.2 - m1 + m2)) → xs.foldl (dvAdd m2) o2 = (xs.foldl (dvAdd m1) o1).map (fun e => (e.1, e.2 - m1 + m2)) := fun xs => by
    induction xs with
    | nil => intro o1 o2 h; exact h
    | cons x xs ih =>
      intro o1 o2 h
      refine ih _ _ ?_
      subst h
      have e : (o1.map (fun e => (e.1, e.2 - m1 + m2))).any (fun e => decide (e.1 = x)) = o1.any (fun e => decide (e.1 = x)) := by simp [List.any_map, Function.comp_def]
      unfold dvAdd
      rw [e]
      split
      · rfl
      · simp only [List.map_append, List.map_cons, List.map_nil, List.length_map]
        congr 2
        simp only [Prod.mk.injEq, true_and]
        omega
  exact h xs [] [] rfl
theorem dv_pos {more : Int} {xs : List Int} (h : 0 < xs.length) : 0 < (dvL more xs).length := by
  match xs, h with
  | x :: xs, _ =>
    have h : ∀ (xs : List Int) (out : List (Int × Int)), 0 < out.length → 0 < (xs.foldl (dvAdd more) out).length := fun xs => by
      induction xs with
      | nil => intro out h; exact h
      | cons y xs ih =>
        intro out h
        refine ih _ ?_
        unfold dvAdd
        split
        · exact h
        · simp
    exact h xs _ (by simp [dvAdd])
theorem ord_nil : Ord [] := List.Pairwise.nil
theorem lget_nil (q : Int) : lget q [] = none := rfl
theorem sE_ask {L es : List (Int × Int)} (h : ∀ e ∈ es, lget e.1 L = some e.2) : (ansG L (ask es)).map sE = es := by
  unfold ansG ask
  rw [List.map_map, List.map_map]
  have : ∀ e ∈ es, ((sE ∘ (fun e : Int × Int => (e.1, lget e.1 L))) ∘ fun e : Int × Int => (e.1, (0 : Int))) e = e := fun e he => by
    simp only [Function.comp]
    rw [h e he]
    rfl
  rw [List.map_congr_left this, List.map_id']
theorem sE_ans {L es : List (Int × Int)} {f : Int × Int → Int × Int} (hf : ∀ e, (f e).1 = e.1) (h : ∀ e ∈ es, lget e.1 L = some e.2) : (ansG L (es.map f)).map sE = es := by
  unfold ansG
  rw [List.map_map, List.map_map]
  have : ∀ e ∈ es, ((sE ∘ (fun e : Int × Int => (e.1, lget e.1 L))) ∘ f) e = e := fun e he => by
    simp only [Function.comp, hf]
    rw [h e he]
    rfl
  rw [List.map_congr_left this, List.map_id']
/-- Over: what the law holds together. -/
theorem over_facts (xs : List Int) (hx : 0 < xs.length) : ∃ L1 L2 : List (Int × Int),
    finL [] (dvL 0 xs) = L1 ∧ finL L1 (dvL 100 xs) = L2 ∧ L1.length = (dvL 0 xs).length ∧ L2.length = (dvL 0 xs).length ∧ (dvL 100 xs).length = (dvL 0 xs).length ∧
    (ansI L1 (dvL 100 xs)).map sE = dvL 0 xs ∧ (ansG L2 (ask (dvL 0 xs))).map sE = dvL 100 xs := by
  have hd := dv_dist 0 xs
  have hd2 := dv_dist 100 xs
  obtain ⟨g1, g2⟩ := fin_get ord_nil hd
  have ho1 : Ord (finL [] (dvL 0 xs)) := finL_ord ord_nil
  obtain ⟨k1, k2⟩ := fin_get ho1 hd2
  have hm := dv_more 0 100 xs
  have hmem : ∀ e ∈ dvL 100 xs, ∃ e' ∈ dvL 0 xs, e'.1 = e.1 := fun e he => by
    rw [hm] at he
    obtain ⟨e', h1, rfl⟩ := List.mem_map.1 he
    exact ⟨e', h1, rfl⟩
  have hlen : (dvL 100 xs).length = (dvL 0 xs).length := by rw [hm, List.length_map]
  have hL1 := len_new ord_nil hd (fun e _ => rfl)
  have hL2 := len_over ho1 hd2 (fun e he => by
    obtain ⟨e', h1, h2⟩ := hmem e he
    rw [← h2, g1 e' h1]
    rfl)
  refine ⟨_, _, rfl, rfl, by simpa using hL1, by rw [hL2]; simpa using hL1, hlen, ?_, ?_⟩
  · rw [ans_dist ho1 hd2, hm]
    exact sE_ans (fun e => rfl) g1
  · have e : ask (dvL 0 xs) = ask (dvL 100 xs) := by
      rw [hm]
      unfold ask
      rw [List.map_map]
      rfl
    rw [e]
    exact sE_ask k1
end Go.Proofs.Ytlppnbmaedgodaa
