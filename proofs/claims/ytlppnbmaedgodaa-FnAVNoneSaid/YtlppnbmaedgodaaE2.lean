/- MEMORY: the steps of an insertion: down, the new leaf, the balances. -/
import Derived.Test.YtlppnbmaedgodaaE1
namespace Go.Proofs.Ytlppnbmaedgodaa
open Go.RowKit
set_option linter.unusedVariables false
set_option linter.unusedSimpArgs false

theorem Rep.frs_lt {w : World} {F : List Fr} {t : T} (h : Rep w (zip F t)) : ∀ x ∈ frBl F ++ t.bl, x < w.heap.size := fun x hx => h.lt x ((zip_bl F t).mem_iff.2 hx)
/-- On the way down: the nodes above are F, the tree from here on is P. -/
structure Dn (w0 : World) (cp D r0 n : Nat) (F : List Fr) (P : T) (w : World) : Prop where
  ow : Blk w cp #[.pointer (some ⟨r0, 0, none⟩), .int .u64 n, .int .i8 0, .pointer none, .pointer none, .nilIface]
  dm : Blk w D #[.int .i8 0, .pointer none, .pointer (some ⟨r0, 0, none⟩), .nilIface]
  rep : Rep w (zip F P)
  nd : (frBl F ++ P.bl).Nodup
  cpo : cp ∉ frBl F ++ P.bl
  dmo : D ∉ frBl F ++ P.bl
  cpd : cp ≠ D
  tp : top F P.adr = some r0
  new : ∀ f ∈ F, f.a = r0 ∨ w0.heap.size ≤ f.a
  newP : ∀ a, P.adr = some a → a = r0 ∨ w0.heap.size ≤ a
  newD : w0.heap.size ≤ D
  old : ∀ x ∈ frBl F ++ P.bl, OldB w0 cp x ∨ w0.heap.size ≤ x
  ch : Ch (SI cp (some r0)) w0 w
theorem Dn.frs {w0 : World} {cp D r0 n : Nat} {F : List Fr} {P : T} {w : World} (d : Dn w0 cp D r0 n F P w) : Frs w F P.adr ∧ Rep w P := rep_zip.1 d.rep
theorem Dn.drew {w0 : World} {cp D r0 n : Nat} {F : List Fr} {P : T} {w : World} (d : Dn w0 cp D r0 n F P w) : Dn w0 cp D r0 n F P w.drew :=
  ⟨d.ow, d.dm, d.rep.keep ((Ch.refl S0 w).drew) (fun _ _ h => h), d.nd, d.cpo, d.dmo, d.cpd, d.tp, d.new, d.newP, d.newD, d.old, d.ch.drew⟩
theorem nodup_cut {A B : List Nat} {a : Nat} {C E : List Nat} (h : (A ++ a :: (B ++ C)).Nodup) : a ∉ A ∧ a ∉ B ∧ a ∉ C := by
  obtain ⟨h1, h2, h3⟩ := List.nodup_append.1 h
  refine ⟨fun h => h3 a h a (by simp) rfl, fun h => (List.nodup_cons.1 h2).1 (by simp [h]), fun h => (List.nodup_cons.1 h2).1 (by simp [h])⟩
/-- A step down to the right: the child was copied to a new block. -/
theorem Dn.goR {w0 : World} {cp D r0 n : Nat} {F : List Fr} {a : Nat} {b : Int} {l : T} {ac : Nat} {bc : Int} {lc rc : T} {kc vc k v : Int} {w w1 : World}
    (d : Dn w0 cp D r0 n F (.node a b l (.node ac bc lc rc kc vc) k v) w) (h1 : Blk w1 w.heap.size (ncell bc lc.adr rc.adr kc vc)) (hc : Ch S0 w w1) :
    Dn w0 cp D r0 n (F ++ [⟨a, b, true, l, k, v⟩]) (.node w.heap.size bc lc rc kc vc) (w1.setCell ⟨a, 2, none⟩ (.pointer (some ⟨w.heap.size, 0, none⟩))) := by
  obtain ⟨f1, g1, g2, g3, g4, g5⟩ := d.frs
  have hlt := d.rep.frs_lt
  have nd := d.nd
  simp only [T.bl] at hlt nd
  obtain ⟨a1, a2, a3⟩ := nodup_cut (E := []) nd
  have hal : a < w.heap.size := hlt a (by simp)
  have hC : Ch (S1 a) w (w1.setCell ⟨a, 2, none⟩ (.pointer (some ⟨w.heap.size, 0, none⟩))) := Ch.setCell (S := S1 a) (hc.mono (fun _ _ h => h.elim)) ⟨a, 2, none⟩ (fun _ => rfl) _
  have ne : ∀ {x : Nat}, x ≠ a → ¬ S1 a x := fun h e => h e
  have mem : ∀ {x : Nat}, x ∈ frBl F ∨ x ∈ l.bl ∨ x ∈ lc.bl ∨ x ∈ rc.bl → ¬ S1 a x := fun h e => by
    subst e
    rcases h with h | h | h | h
    · exact a1 h
    · exact a2 h
    · exact a3 (by simp [T.bl, h])
    · exact a3 (by simp [T.bl, h])
  have c1 := d.cpo
  have c2 := d.dmo
  simp only [T.bl, List.mem_append, List.mem_cons, not_or] at c1 c2
  have hcl := d.ow.lt
  have hdl := d.dm.lt
  refine ⟨d.ow.keep hC (ne c1.2.1), d.dm.keep hC (ne c2.2.1), ?_, ?_, ?_, ?_, d.cpd, ?_, ?_, ?_, d.newD, ?_, ?_⟩
  · rw [zip_snoc, rep_zip]
    refine ⟨f1.keep hC (fun x hx => mem (Or.inl hx)), ?_⟩
    have hb : Blk (w1.setCell ⟨a, 2, none⟩ (.pointer (some ⟨w.heap.size, 0, none⟩))) a (ncell b l.adr (some w.heap.size) k v) := (g1.keep hc (fun h => h)).set 2 _
    refine ⟨hb, g2.keep hC (fun x hx => mem (Or.inr (Or.inl hx))), h1.setOther (p := ⟨a, 2, none⟩) (show a ≠ w.heap.size by omega) _, g4.keep hC (fun x hx => mem (Or.inr (Or.inr (Or.inl hx)))), g5.keep hC (fun x hx => mem (Or.inr (Or.inr (Or.inr hx))))⟩
  · rw [frBl_app]
    simp only [frBl, List.append_nil, T.bl, List.append_assoc, List.cons_append]
    have hnd : (frBl F ++ a :: (l.bl ++ (lc.bl ++ rc.bl))).Nodup := nd.sublist (by
      refine List.Sublist.append_left ?_ _
      refine List.Sublist.cons_cons _ (List.Sublist.append_left ?_ _)
      exact List.sublist_cons_self _ _)
    have hfresh : w.heap.size ∉ frBl F ++ a :: (l.bl ++ (lc.bl ++ rc.bl)) := fun h => by
      have := hlt w.heap.size (by
        simp only [List.mem_append, List.mem_cons] at h ⊢
        rcases h with h | h | h | h | h
        · exact Or.inl h
        · exact Or.inr (Or.inl h)
        · exact Or.inr (Or.inr (Or.inl h))
        · exact Or.inr (Or.inr (Or.inr (Or.inr (Or.inl h))))
        · exact Or.inr (Or.inr (Or.inr (Or.inr (Or.inr h)))))
      omega
    have : (w.heap.size :: (frBl F ++ a :: (l.bl ++ (lc.bl ++ rc.bl)))).Nodup := List.nodup_cons.2 ⟨hfresh, hnd⟩
    refine this.perm ?_ 
    rw [List.perm_iff_count]
    intro z
    simp only [List.count_cons, List.count_append]
    omega
  · rw [frBl_app]
    simp only [frBl, T.bl, List.mem_append, List.mem_cons, List.append_nil, not_or]
    obtain ⟨e1, e2, e3, e4, e5, e6⟩ := c1
    exact ⟨⟨e1, e2, e3⟩, by omega, e5, e6⟩
  · rw [frBl_app]
    simp only [frBl, T.bl, List.mem_append, List.mem_cons, List.append_nil, not_or]
    obtain ⟨e1, e2, e3, e4, e5, e6⟩ := c2
    exact ⟨⟨e1, e2, e3⟩, by omega, e5, e6⟩
  · have := d.tp
    cases F with
    | nil => exact this
    | cons f F => exact this
  · intro f hf
    rcases List.mem_append.1 hf with hf | hf
    · exact d.new f hf
    · obtain rfl := List.mem_singleton.1 hf
      exact d.newP a rfl
  · intro x hx
    cases hx
    exact Or.inr d.ch.size
  · intro x hx
    rw [frBl_app] at hx
    have ho := d.old
    simp only [frBl, T.bl, List.mem_append, List.mem_cons, List.append_nil] at hx ho
    have := d.ch.size
    rcases hx with (h | h | h) | h | h | h
    · exact ho x (Or.inl h)
    · exact ho x (by simp [h])
    · exact ho x (by simp [h])
    · exact Or.inr (by omega)
    · exact ho x (by simp [h])
    · exact ho x (by simp [h])
  · refine d.ch.trans' hC ?_
    intro i hi e0
    have e0 : i = a := e0
    rcases d.newP a rfl with e | e
    · exact Or.inr (by rw [e0, e])
    · omega
theorem Dn.goL {w0 : World} {cp D r0 n : Nat} {F : List Fr} {a : Nat} {b : Int} {l : T} {ac : Nat} {bc : Int} {lc rc : T} {kc vc k v : Int} {w w1 : World}
    (d : Dn w0 cp D r0 n F (.node a b (.node ac bc lc rc kc vc) l k v) w) (h1 : Blk w1 w.heap.size (ncell bc lc.adr rc.adr kc vc)) (hc : Ch S0 w w1) :
    Dn w0 cp D r0 n (F ++ [⟨a, b, false, l, k, v⟩]) (.node w.heap.size bc lc rc kc vc) (w1.setCell ⟨a, 1, none⟩ (.pointer (some ⟨w.heap.size, 0, none⟩))) := by
  obtain ⟨f1, g1, ⟨g3, g4, g5⟩, g2⟩ := d.frs
  have hlt := d.rep.frs_lt
  have nd := d.nd
  simp only [T.bl] at hlt nd
  obtain ⟨a1, a3, a2⟩ := nodup_cut (E := []) nd
  have hal : a < w.heap.size := hlt a (by simp)
  have hC : Ch (S1 a) w (w1.setCell ⟨a, 1, none⟩ (.pointer (some ⟨w.heap.size, 0, none⟩))) := Ch.setCell (S := S1 a) (hc.mono (fun _ _ h => h.elim)) ⟨a, 1, none⟩ (fun _ => rfl) _
  have ne : ∀ {x : Nat}, x ≠ a → ¬ S1 a x := fun h e => h e
  have mem : ∀ {x : Nat}, x ∈ frBl F ∨ x ∈ l.bl ∨ x ∈ lc.bl ∨ x ∈ rc.bl → ¬ S1 a x := fun h e => by
    subst e
    rcases h with h | h | h | h
    · exact a1 h
    · exact a2 h
    · exact a3 (by simp [T.bl, h])
    · exact a3 (by simp [T.bl, h])
  have c1 := d.cpo
  have c2 := d.dmo
  simp only [T.bl, List.mem_append, List.mem_cons, not_or] at c1 c2
  have hcl := d.ow.lt
  have hdl := d.dm.lt
  refine ⟨d.ow.keep hC (ne c1.2.1), d.dm.keep hC (ne c2.2.1), ?_, ?_, ?_, ?_, d.cpd, ?_, ?_, ?_, d.newD, ?_, ?_⟩
  · rw [zip_snoc, rep_zip]
    refine ⟨f1.keep hC (fun x hx => mem (Or.inl hx)), ?_⟩
    have hb : Blk (w1.setCell ⟨a, 1, none⟩ (.pointer (some ⟨w.heap.size, 0, none⟩))) a (ncell b (some w.heap.size) l.adr k v) := (g1.keep hc (fun h => h)).set 1 _
    refine ⟨hb, ⟨h1.setOther (p := ⟨a, 1, none⟩) (show a ≠ w.heap.size by omega) _, g4.keep hC (fun x hx => mem (Or.inr (Or.inr (Or.inl hx)))), g5.keep hC (fun x hx => mem (Or.inr (Or.inr (Or.inr hx))))⟩, g2.keep hC (fun x hx => mem (Or.inr (Or.inl hx)))⟩
  · rw [frBl_app]
    simp only [frBl, List.append_nil, T.bl, List.append_assoc, List.cons_append]
    have hnd : (frBl F ++ a :: ((lc.bl ++ rc.bl) ++ l.bl)).Nodup := nd.sublist (by
      refine List.Sublist.append_left ?_ _
      refine List.Sublist.cons_cons _ (List.Sublist.append_right ?_ _)
      exact List.sublist_cons_self _ _)
    have hfresh : w.heap.size ∉ frBl F ++ a :: ((lc.bl ++ rc.bl) ++ l.bl) := fun h => by
      have := hlt w.heap.size (by
        simp only [List.mem_append, List.mem_cons] at h ⊢
        rcases h with h | h | (h | h) | h
        · exact Or.inl h
        · exact Or.inr (Or.inl h)
        · exact Or.inr (Or.inr (Or.inl (Or.inr (Or.inl h))))
        · exact Or.inr (Or.inr (Or.inl (Or.inr (Or.inr h))))
        · exact Or.inr (Or.inr (Or.inr h)))
      omega
    have : (w.heap.size :: (frBl F ++ a :: ((lc.bl ++ rc.bl) ++ l.bl))).Nodup := List.nodup_cons.2 ⟨hfresh, hnd⟩
    refine this.perm ?_ 
    rw [List.perm_iff_count]
    intro z
    simp only [List.count_cons, List.count_append]
    omega
  · rw [frBl_app]
    simp only [frBl, T.bl, List.mem_append, List.mem_cons, List.append_nil, not_or]
    obtain ⟨e1, e2, ⟨e4, e5, e6⟩, e3⟩ := c1
    exact ⟨⟨e1, e2, e3⟩, by omega, e5, e6⟩
  · rw [frBl_app]
    simp only [frBl, T.bl, List.mem_append, List.mem_cons, List.append_nil, not_or]
    obtain ⟨e1, e2, ⟨e4, e5, e6⟩, e3⟩ := c2
    exact ⟨⟨e1, e2, e3⟩, by omega, e5, e6⟩
  · have := d.tp
    cases F with
    | nil => exact this
    | cons f F => exact this
  · intro f hf
    rcases List.mem_append.1 hf with hf | hf
    · exact d.new f hf
    · obtain rfl := List.mem_singleton.1 hf
      exact d.newP a rfl
  · intro x hx
    cases hx
    exact Or.inr d.ch.size
  · intro x hx
    rw [frBl_app] at hx
    have ho := d.old
    simp only [frBl, T.bl, List.mem_append, List.mem_cons, List.append_nil] at hx ho
    have := d.ch.size
    rcases hx with (h | h | h) | h | h | h
    · exact ho x (Or.inl h)
    · exact ho x (by simp [h])
    · exact ho x (by simp [h])
    · exact Or.inr (by omega)
    · exact ho x (by simp [h])
    · exact ho x (by simp [h])
  · refine d.ch.trans' hC ?_
    intro i hi e0
    have e0 : i = a := e0
    rcases d.newP a rfl with e | e
    · exact Or.inr (by rw [e0, e])
    · omega
/-- The node of the last frame. -/
theorem Dn.last {w0 : World} {cp D r0 n : Nat} {F : List Fr} {f : Fr} {P : T} {w : World} (d : Dn w0 cp D r0 n (F ++ [f]) P w) : Blk w f.a (f.cells P.adr) := (frs_snoc.1 d.frs.1).2.1
/-- A new leaf hangs on the last frame. -/
theorem Dn.leaf {w0 : World} {cp D r0 n : Nat} {F : List Fr} {f : Fr} {w w1 : World} {key val : Int} (d : Dn w0 cp D r0 n (F ++ [f]) .nil w) (h1 : Blk w1 w.heap.size (ncell 0 none none key val)) (hc : Ch S0 w w1) :
    Dn w0 cp D r0 n (F ++ [f]) (leaf w.heap.size key val) (w1.setCell ⟨f.a, if f.d then 2 else 1, none⟩ (.pointer (some ⟨w.heap.size, 0, none⟩))) := by
  obtain ⟨f1, g1, g2⟩ := frs_snoc.1 d.frs.1
  have hlt := d.rep.frs_lt
  have nd := d.nd
  rw [frBl_app] at hlt nd
  simp only [frBl, T.bl, List.append_nil] at hlt nd
  obtain ⟨h2, h3, h4⟩ := List.nodup_append.1 nd
  have a1 : f.a ∉ frBl F := fun h => h4 _ h f.a (by simp) rfl
  have a2 := (List.nodup_cons.1 h3).1
  have hC : Ch (S1 f.a) w (w1.setCell ⟨f.a, if f.d then 2 else 1, none⟩ (.pointer (some ⟨w.heap.size, 0, none⟩))) := Ch.setCell (S := S1 f.a) (hc.mono (fun _ _ h => h.elim)) ⟨f.a, if f.d then 2 else 1, none⟩ (fun _ => rfl) _
  have c1 := d.cpo
  have c2 := d.dmo
  rw [frBl_app] at c1 c2
  simp only [frBl, T.bl, List.mem_append, List.mem_cons, List.append_nil, not_or] at c1 c2
  have hal : f.a < w.heap.size := hlt _ (by simp)
  have hcl := d.ow.lt
  have hdl := d.dm.lt
  refine ⟨d.ow.keep hC (fun e => c1.2.1 e), d.dm.keep hC (fun e => c2.2.1 e), ?_, ?_, ?_, ?_, d.cpd, ?_, d.new, ?_, d.newD, ?_, ?_⟩
  · rw [rep_zip]
    refine ⟨frs_snoc.2 ⟨f1.keep hC (fun x hx e => a1 (by rw [← show x = f.a from e]; exact hx)), ?_, g2.keep hC (fun x hx e => a2 (by rw [← show x = f.a from e]; exact hx))⟩, ?_⟩
    · have := (g1.keep hc (fun h => h)).set (if f.d then 2 else 1) (.pointer (some ⟨w.heap.size, 0, none⟩))
      cases hd : f.d <;> rw [hd] at this <;> simp only [Fr.cells, hd, ncell, if_true, if_false, Bool.false_eq_true] at this ⊢ <;> exact this
    · exact ⟨h1.setOther (p := ⟨f.a, if f.d then 2 else 1, none⟩) (show f.a ≠ w.heap.size by omega) _, trivial, trivial⟩
  · rw [frBl_app]
    simp only [frBl, Go.Proofs.Ytlppnbmaedgodaa.leaf, T.bl, List.append_nil]
    have hfresh : w.heap.size ∉ frBl F ++ f.a :: f.sib.bl := fun h => by have := hlt _ h; omega
    have := (List.nodup_cons.2 ⟨hfresh, nd⟩)
    refine this.perm ?_
    exact (List.perm_append_comm (l₁ := [w.heap.size])).trans (List.Perm.refl _)
  · rw [frBl_app]
    simp only [frBl, Go.Proofs.Ytlppnbmaedgodaa.leaf, T.bl, List.mem_append, List.mem_cons, List.append_nil, not_or]
    exact ⟨c1, by omega, by simp⟩
  · rw [frBl_app]
    simp only [frBl, Go.Proofs.Ytlppnbmaedgodaa.leaf, T.bl, List.mem_append, List.mem_cons, List.append_nil, not_or]
    exact ⟨c2, by omega, by simp⟩
  · have := d.tp
    cases F with
    | nil => exact this
    | cons f F => exact this
  · intro x hx
    cases hx
    exact Or.inr d.ch.size
  · intro x hx
    have := d.ch.size
    rcases List.mem_append.1 hx with h | h
    · exact d.old x (by simp [h])
    · simp only [Go.Proofs.Ytlppnbmaedgodaa.leaf, T.bl, List.append_nil, List.mem_singleton] at h
      exact Or.inr (by omega)
  · refine d.ch.trans' hC ?_
    intro i hi e0
    have e0 : i = f.a := e0
    rcases d.new f (by simp) with e | e
    · exact Or.inr (by rw [e0, e])
    · omega
theorem frs_mid {w : World} {f : Fr} {G : List Fr} {o : Option Nat} : ∀ {F : List Fr}, Frs w (F ++ f :: G) o ↔ Frs w F (some f.a) ∧ Blk w f.a (f.cells (top G o)) ∧ Rep w f.sib ∧ Frs w G o
  | [] => by simp [Frs]
  | g :: F => by
    have ih := frs_mid (w := w) (f := f) (G := G) (o := o) (F := F)
    have e : top (F ++ f :: G) o = top F (some f.a) := by cases F <;> rfl
    simp only [List.cons_append, Frs, e, ih]
    constructor
    · rintro ⟨a, b, c⟩; exact ⟨⟨a, b, c.1⟩, c.2⟩
    · rintro ⟨⟨a, b, c⟩, d⟩; exact ⟨a, b, c, d⟩
/-- The balance of a node on the way is written. -/
theorem Dn.up {w0 : World} {cp D r0 n : Nat} {F G : List Fr} {f : Fr} {P : T} {w : World} (d : Dn w0 cp D r0 n (F ++ f :: G) P w) :
    Dn w0 cp D r0 n (F ++ f.up :: G) P (w.setCell ⟨f.a, 0, none⟩ (.int .i8 f.up.b)) := by
  obtain ⟨k1, k2⟩ := d.frs
  obtain ⟨f1, g1, g2, g3⟩ := frs_mid.1 k1
  have nd := d.nd
  rw [frBl_app] at nd
  simp only [frBl, List.append_assoc, List.cons_append] at nd
  obtain ⟨h2, h3, h4⟩ := List.nodup_append.1 nd
  have a1 : f.a ∉ frBl F := fun h => h4 _ h f.a (by simp) rfl
  have a2 := (List.nodup_cons.1 h3).1
  simp only [List.mem_append, not_or] at a2
  have hC : Ch (S1 f.a) w (w.setCell ⟨f.a, 0, none⟩ (.int .i8 f.up.b)) := (Ch.refl (S1 f.a) w).setCell ⟨f.a, 0, none⟩ (fun _ => rfl) _
  have ebl : frBl (F ++ f.up :: G) = frBl (F ++ f :: G) := by rw [frBl_app, frBl_app]; rfl
  have hb : Blk (w.setCell ⟨f.a, 0, none⟩ (.int .i8 f.up.b)) f.up.a (f.up.cells (top G P.adr)) := by
    have := g1.set 0 (.int .i8 f.up.b)
    have e1 : f.up.d = f.d := rfl
    unfold Fr.cells at this ⊢
    rw [e1]
    cases hd : f.d <;> rw [hd] at this <;> simp only [ncell, if_true, if_false, Bool.false_eq_true] at this ⊢ <;> exact this
  have c1 := d.cpo
  have c2 := d.dmo
  rw [frBl_app] at c1 c2
  simp only [frBl, List.mem_append, List.mem_cons, not_or] at c1 c2
  refine ⟨d.ow.keep hC (fun e => c1.1.2.1 e), d.dm.keep hC (fun e => c2.1.2.1 e), ?_, by rw [ebl]; exact d.nd, by rw [ebl]; exact d.cpo, by rw [ebl]; exact d.dmo, d.cpd, ?_, ?_, d.newP, d.newD, by rw [ebl]; exact d.old, ?_⟩
  · rw [rep_zip]
    have ne : ∀ {L : List Nat}, f.a ∉ L → ∀ x ∈ L, ¬ S1 f.a x := fun h x hx e => h (by rw [← show x = f.a from e]; exact hx)
    exact ⟨frs_mid.2 ⟨f1.keep hC (ne a1), hb, g2.keep hC (ne a2.1), g3.keep hC (ne a2.2.1)⟩, k2.keep hC (ne a2.2.2)⟩
  · have := d.tp
    cases F with
    | nil => exact this
    | cons f F => exact this
  · intro g hg
    rcases List.mem_append.1 hg with hg | hg
    · exact d.new g (by simp [hg])
    · rcases List.mem_cons.1 hg with e | hg
      · subst e; exact d.new f (by simp)
      · exact d.new g (by simp [hg])
  · refine d.ch.trans' hC ?_
    intro i hi e0
    have e0 : i = f.a := e0
    rcases d.new f (by simp) with e | e
    · exact Or.inr (by rw [e0, e])
    · omega
/-- The owner counts one more. -/
theorem Dn.more {w0 : World} {cp D r0 n : Nat} {F : List Fr} {P : T} {w : World} (d : Dn w0 cp D r0 n F P w) : Dn w0 cp D r0 (n + 1) F P (w.setCell ⟨cp, 1, none⟩ (.int .u64 ((n : Int) + 1))) := by
  have hC : Ch (S1 cp) w (w.setCell ⟨cp, 1, none⟩ (.int .u64 ((n : Int) + 1))) := (Ch.refl (S1 cp) w).setCell ⟨cp, 1, none⟩ (fun _ => rfl) _
  refine ⟨?_, d.dm.keep hC (fun e => d.cpd e.symm), d.rep.keep hC (fun x hx e => d.cpo ?_), d.nd, d.cpo, d.dmo, d.cpd, d.tp, d.new, d.newP, d.newD, d.old, d.ch.setCell ⟨cp, 1, none⟩ (fun _ => Or.inl rfl) _⟩
  · have := d.ow.set 1 (.int .u64 ((n : Int) + 1))
    simpa using this
  · have : x ∈ frBl F ++ P.bl := (zip_bl F P).mem_iff.1 hx
    rw [← show x = cp from e]
    exact this
end Go.Proofs.Ytlppnbmaedgodaa
