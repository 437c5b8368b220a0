/- MEMORY: an insertion's end: the tree is turned about, and hung where it was. -/
import Derived.Test.YtlppnbmaedgodaaE2
import Derived.LaidEqlPtr
namespace Go.Proofs.Ytlppnbmaedgodaa
open Go.RowKit
set_option linter.unusedVariables false
set_option linter.unusedSimpArgs false

theorem compare_to (kk vv key val o : Int) (h : ord kk key = o) (w : World) : Calls Try.prog 61 #[.agg #[.int .i64 kk, .int .i64 vv], en key val] w fun r w' => r = .returned (.int .i64 o) ∧ Ch S0 w w' := by
  subst h
  exact compare_any kk vv key val w
theorem norm_m (w : World) : Calls Try.prog 35 #[.int .i64 (-1)] w fun r w' => r = .returned (.int .i64 1) ∧ w' = w := norm_any 0 1 w
theorem norm_p (w : World) : Calls Try.prog 35 #[.int .i64 1] w fun r w' => r = .returned (.int .i64 0) ∧ w' = w := norm_any 1 0 w
theorem norm_z (w : World) : Calls Try.prog 35 #[.int .i64 0] w fun r w' => r = .returned (.int .i64 (-1)) ∧ w' = w := norm_any 0 0 w
theorem ord_lt {x y : Int} (h : x < y) : ord x y = -1 := by simp [ord, h]
theorem ord_gt {x y : Int} (h : y < x) : ord x y = 1 := by simp [ord, h]; omega
theorem ord_eq {x y : Int} (h : x = y) : ord x y = 0 := by simp [ord, h]
theorem undE : Try.prog.underlying 61 = some (.pointer 68) := by kernel_rfl
theorem infoE : ∃ j, Try.prog.info? 68 = some j ∧ j.size ≠ 0 := by
  have h : (Try.prog.info? 68).map (fun i => i.size) = some 4 := by kernel_rfl
  cases e : Try.prog.info? 68 with
  | none => rw [e] at h; cases h
  | some j =>
    rw [e] at h
    refine ⟨j, rfl, fun h0 => ?_⟩
    simp [h0] at h
theorem ptr_eq {w : World} {x y : Nat} {c d : Array Value} (hx : Blk w x c) (hy : Blk w y d) : (binOp .eql 61 (.pointer (some ⟨x, 0, none⟩)) (.pointer (some ⟨y, 0, none⟩))).run Try.prog w = .ok (.bool (decide (x = y))) w := by
  obtain ⟨j, hj, hs⟩ := infoE
  by_cases e : x = y
  · subst e
    rw [run_eql_ptr_same w _ undE hj]; simp
  · obtain ⟨T, hx⟩ := hx
    obtain ⟨U, hy⟩ := hy
    rw [run_eql_ptr_other (a := ⟨x, 0, none⟩) (b := ⟨y, 0, none⟩) w undE hj hs (fun h => e (by cases h; rfl)) hx hy]
    simp [e]
theorem ptr_ne {w : World} {x y : Nat} {c d : Array Value} (hx : Blk w x c) (hy : Blk w y d) : (binOp .neq 61 (.pointer (some ⟨x, 0, none⟩)) (.pointer (some ⟨y, 0, none⟩))).run Try.prog w = .ok (.bool (!decide (x = y))) w := by
  obtain ⟨j, hj, hs⟩ := infoE
  have h : ∀ d : Nat, (Op.equalIn (d + 1) 61 (.pointer (some ⟨x, 0, none⟩)) (.pointer (some ⟨y, 0, none⟩))).run Try.prog w = .ok (decide (x = y)) w := fun d => by
    by_cases e : x = y
    · subst e
      simp [Op.equalIn, run_underlying undE, sizeOf, typeInfo, hj, run_sameAddr_same]
    · obtain ⟨T, hx⟩ := hx
      obtain ⟨U, hy⟩ := hy
      simp [Op.equalIn, run_underlying undE, sizeOf, typeInfo, hj, hs, run_sameAddr_other (a := ⟨x, 0, none⟩) (b := ⟨y, 0, none⟩) w (fun h => e (by cases h; rfl)) hx hy, e]
  simp only [binOp]
  simp [Op.equal, Op.maxDepth, h 9999]
theorem Dn.keep0 {w0 : World} {cp D r0 n : Nat} {F : List Fr} {P : T} {w w' : World} (d : Dn w0 cp D r0 n F P w) (hc : Ch S0 w w') : Dn w0 cp D r0 n F P w' :=
  ⟨d.ow.keep hc (fun h => h), d.dm.keep hc (fun h => h), d.rep.keep hc (fun _ _ h => h), d.nd, d.cpo, d.dmo, d.cpd, d.tp, d.new, d.newP, d.newD, d.old, d.ch.trans' hc (fun _ _ h => h.elim)⟩
/-- What stands below is taken apart, or put together. -/
theorem Dn.join {w0 : World} {cp D r0 n : Nat} {F G : List Fr} {P : T} {w : World} (d : Dn w0 cp D r0 n (F ++ G) P w) : Dn w0 cp D r0 n F (zip G P) w := by
  have hp : (frBl (F ++ G) ++ P.bl).Perm (frBl F ++ (zip G P).bl) := by
    rw [frBl_app, List.append_assoc]
    exact List.Perm.append_left _ (zip_bl G P).symm
  refine ⟨d.ow, d.dm, by rw [← zip_app]; exact d.rep, hp.nodup_iff.1 d.nd, fun h => d.cpo (hp.mem_iff.2 h), fun h => d.dmo (hp.mem_iff.2 h), d.cpd, ?_, fun f hf => d.new f (by simp [hf]), ?_, d.newD, fun x hx => d.old x (hp.mem_iff.2 hx), d.ch⟩
  · rw [zip_adr]
    have := d.tp
    cases F with
    | nil => exact this
    | cons f F => exact this
  · intro a ha
    rw [zip_adr] at ha
    cases G with
    | nil => exact d.newP a ha
    | cons g G => cases ha; exact d.new g (by simp)
theorem Dn.openR {w0 : World} {cp D r0 n : Nat} {F : List Fr} {a : Nat} {b : Int} {l r : T} {k v : Int} {w : World} (d : Dn w0 cp D r0 n F (.node a b l r k v) w) (hr : r = .nil) : Dn w0 cp D r0 n (F ++ [⟨a, b, true, l, k, v⟩]) .nil w := by
  subst hr
  refine ⟨d.ow, d.dm, by rw [zip_snoc]; exact d.rep, ?_, ?_, ?_, d.cpd, ?_, ?_, fun a h => (by cases h), d.newD, ?_, d.ch⟩
  · rw [frBl_app]; simpa [frBl, T.bl] using d.nd
  · rw [frBl_app]; simpa [frBl, T.bl] using d.cpo
  · rw [frBl_app]; simpa [frBl, T.bl] using d.dmo
  · have := d.tp
    cases F with
    | nil => exact this
    | cons f F => exact this
  · intro f hf
    rcases List.mem_append.1 hf with hf | hf
    · exact d.new f hf
    · obtain rfl := List.mem_singleton.1 hf
      exact d.newP a rfl
  · rw [frBl_app]; simpa [frBl, T.bl] using d.old
theorem Dn.openL {w0 : World} {cp D r0 n : Nat} {F : List Fr} {a : Nat} {b : Int} {l r : T} {k v : Int} {w : World} (d : Dn w0 cp D r0 n F (.node a b r l k v) w) (hr : r = .nil) : Dn w0 cp D r0 n (F ++ [⟨a, b, false, l, k, v⟩]) .nil w := by
  subst hr
  refine ⟨d.ow, d.dm, by rw [zip_snoc]; exact d.rep, ?_, ?_, ?_, d.cpd, ?_, ?_, fun a h => (by cases h), d.newD, ?_, d.ch⟩
  · rw [frBl_app]; simpa [frBl, T.bl] using d.nd
  · rw [frBl_app]; simpa [frBl, T.bl] using d.cpo
  · rw [frBl_app]; simpa [frBl, T.bl] using d.dmo
  · have := d.tp
    cases F with
    | nil => exact this
    | cons f F => exact this
  · intro f hf
    rcases List.mem_append.1 hf with hf | hf
    · exact d.new f hf
    · obtain rfl := List.mem_singleton.1 hf
      exact d.newP a rfl
  · rw [frBl_app]; simpa [frBl, T.bl] using d.old
/-- The owner's root is written; it is what it was. -/
theorem Dn.root {w0 : World} {cp D r0 n : Nat} {F : List Fr} {P : T} {w : World} (d : Dn w0 cp D r0 n F P w) : Dn w0 cp D r0 n F P (w.setCell ⟨cp, 0, none⟩ (.pointer (some ⟨r0, 0, none⟩))) := by
  have hC : Ch (S1 cp) w (w.setCell ⟨cp, 0, none⟩ (.pointer (some ⟨r0, 0, none⟩))) := Ch.setCell (S := S1 cp) (Ch.refl _ w) ⟨cp, 0, none⟩ (fun _ => rfl) _
  refine ⟨?_, d.dm.keep hC (fun e => d.cpd e.symm), d.rep.keep hC (fun x hx e => d.cpo ?_), d.nd, d.cpo, d.dmo, d.cpd, d.tp, d.new, d.newP, d.newD, d.old, d.ch.setCell ⟨cp, 0, none⟩ (fun _ => Or.inl rfl) _⟩
  · have := d.ow.set 0 (.pointer (some ⟨r0, 0, none⟩))
    simpa using this
  · have : x ∈ frBl F ++ P.bl := (zip_bl F P).mem_iff.1 hx
    rw [← show x = cp from e]
    exact this
/-- Behind the turning: the nodes above still point to sA, what came of it is P. -/
structure Md (w0 : World) (cp D r0 n sA : Nat) (F : List Fr) (P : T) (w : World) : Prop where
  ow : Blk w cp #[.pointer (some ⟨r0, 0, none⟩), .int .u64 n, .int .i8 0, .pointer none, .pointer none, .nilIface]
  dm : Blk w D #[.int .i8 0, .pointer none, .pointer (some ⟨r0, 0, none⟩), .nilIface]
  frs : Frs w F (some sA)
  rep : Rep w P
  sIn : sA ∈ P.bl
  nd : (frBl F ++ P.bl).Nodup
  cpo : cp ∉ frBl F ++ P.bl
  dmo : D ∉ frBl F ++ P.bl
  cpd : cp ≠ D
  tp : top F (some sA) = some r0
  new : ∀ f ∈ F, f.a = r0 ∨ w0.heap.size ≤ f.a
  newP : ∀ a, P.adr = some a → a = r0 ∨ w0.heap.size ≤ a
  pne : ∃ a, P.adr = some a
  old : ∀ x ∈ frBl F ++ P.bl, OldB w0 cp x ∨ w0.heap.size ≤ x
  ch : Ch (SI cp (some r0)) w0 w
theorem Dn.md {w0 : World} {cp D r0 n : Nat} {F : List Fr} {P : T} {w : World} (d : Dn w0 cp D r0 n F P w) {a : Nat} (ha : P.adr = some a) : Md w0 cp D r0 n a F P w :=
  ⟨d.ow, d.dm, by rw [← ha]; exact d.frs.1, d.frs.2, T.adr_bl ha, d.nd, d.cpo, d.dmo, d.cpd, by rw [← ha]; exact d.tp, d.new, d.newP, ⟨a, ha⟩, d.old, d.ch⟩
/-- The tree is turned about. -/
theorem Dn.turn {w0 : World} {cp D r0 n : Nat} {F : List Fr} {P P' : T} {w w' : World} {S : Nat → Prop} (d : Dn w0 cp D r0 n F P w) {a : Nat} (ha : P.adr = some a) (hr : Rep w' P') (hp : P'.bl.Perm P.bl) (hc : Ch S w w') (h1 : ∀ k, S k → k ∈ P.bl) (h2 : ∀ k, S k → k = r0 ∨ w0.heap.size ≤ k) (h3 : ∀ k, P'.adr = some k → k = r0 ∨ w0.heap.size ≤ k) (h4 : ∃ a, P'.adr = some a) : Md w0 cp D r0 n a F P' w' := by
  have hpp : (frBl F ++ P'.bl).Perm (frBl F ++ P.bl) := List.Perm.append_left _ hp
  have nS : ∀ x, x ∉ P.bl → ¬ S x := fun x hx hs => hx (h1 x hs)
  refine ⟨d.ow.keep hc (nS _ (fun h => d.cpo (List.mem_append_right _ h))), d.dm.keep hc (nS _ (fun h => d.dmo (List.mem_append_right _ h))), ?_, hr, hp.mem_iff.2 (T.adr_bl ha), hpp.nodup_iff.2 d.nd, fun h => d.cpo (hpp.mem_iff.1 h), fun h => d.dmo (hpp.mem_iff.1 h), d.cpd, by rw [← ha]; exact d.tp, d.new, h3, h4, fun x hx => d.old x (hpp.mem_iff.1 hx), ?_⟩
  · rw [← ha]
    exact d.frs.1.keep hc (fun x hx hs => (List.nodup_append.1 d.nd).2.2 x hx x (h1 x hs) rfl)
  · refine d.ch.trans' hc (fun i hi hs => ?_)
    rcases h2 i hs with e | e
    · exact Or.inr (by rw [e])
    · omega
theorem Md.drewN {w0 : World} {cp D r0 n sA : Nat} {F : List Fr} {P : T} {w : World} (m : Md w0 cp D r0 n sA F P w) (q : Nat) : Md w0 cp D r0 n sA F P (w.drewN q) :=
  ⟨m.ow, m.dm, m.frs.keep ((Ch.refl S0 w).drewN q) (fun _ _ h => h), m.rep.keep ((Ch.refl S0 w).drewN q) (fun _ _ h => h), m.sIn, m.nd, m.cpo, m.dmo, m.cpd, m.tp, m.new, m.newP, m.pne, m.old, m.ch.drewN q⟩
theorem Md.keep0 {w0 : World} {cp D r0 n sA : Nat} {F : List Fr} {P : T} {w w' : World} (m : Md w0 cp D r0 n sA F P w) (hc : Ch S0 w w') : Md w0 cp D r0 n sA F P w' :=
  ⟨m.ow.keep hc (fun h => h), m.dm.keep hc (fun h => h), m.frs.keep hc (fun _ _ h => h), m.rep.keep hc (fun _ _ h => h), m.sIn, m.nd, m.cpo, m.dmo, m.cpd, m.tp, m.new, m.newP, m.pne, m.old, m.ch.trans' hc (fun _ _ h => h.elim)⟩
/-- The end where s was the root. -/
theorem Md.endRoot {w0 : World} {cp D r0 n sA : Nat} {P : T} {w : World} (m : Md w0 cp D r0 n sA [] P w) {a : Nat} (ha : P.adr = some a) (hA : P.Avl) (hO : Ord P.toL) (hn : P.toL.length = n) (hf : n ≤ 100000) :
    Imm (w.setCell ⟨cp, 0, none⟩ (.pointer (some ⟨a, 0, none⟩))) cp P ∧ Ch (SI cp (some r0)) w0 (w.setCell ⟨cp, 0, none⟩ (.pointer (some ⟨a, 0, none⟩))) ∧ (∀ x, P.adr = some x → x = r0 ∨ w0.heap.size ≤ x) ∧ (∀ x ∈ P.bl, OldB w0 cp x ∨ w0.heap.size ≤ x) := by
  have hC : Ch (S1 cp) w (w.setCell ⟨cp, 0, none⟩ (.pointer (some ⟨a, 0, none⟩))) := Ch.setCell (S := S1 cp) (Ch.refl _ w) ⟨cp, 0, none⟩ (fun _ => rfl) _
  have hco : cp ∉ P.bl := by have := m.cpo; simpa [frBl] using this
  refine ⟨⟨?_, m.rep.keep hC (fun x hx e => hco (by rw [← show x = cp from e]; exact hx)), by have := m.nd; simpa [frBl] using this, hA, hO, hco, by omega⟩, m.ch.setCell ⟨cp, 0, none⟩ (fun _ => Or.inl rfl) _, m.newP, fun x hx => m.old x (by simp [hx])⟩
  have := m.ow.set 0 (.pointer (some ⟨a, 0, none⟩))
  rw [ha, hn]
  simpa [ad] using this
/-- The end where s hung on a node: the node's pointer is written. -/
theorem Md.endAt {w0 : World} {cp D r0 n sA : Nat} {F : List Fr} {h : Fr} {P : T} {w : World} (m : Md w0 cp D r0 n sA (F ++ [h]) P w) {a : Nat} (ha : P.adr = some a) (hA : (zip (F ++ [h]) P).Avl) (hO : Ord (zip (F ++ [h]) P).toL) (hn : (zip (F ++ [h]) P).toL.length = n) (hf : n ≤ 100000) :
    Imm (w.setCell ⟨h.a, if h.d then 2 else 1, none⟩ (.pointer (some ⟨a, 0, none⟩))) cp (zip (F ++ [h]) P) ∧ Ch (SI cp (some r0)) w0 (w.setCell ⟨h.a, if h.d then 2 else 1, none⟩ (.pointer (some ⟨a, 0, none⟩))) ∧ (∀ x, (zip (F ++ [h]) P).adr = some x → x = r0 ∨ w0.heap.size ≤ x) ∧ (∀ x ∈ (zip (F ++ [h]) P).bl, OldB w0 cp x ∨ w0.heap.size ≤ x) := by
  obtain ⟨f1, g1, g2⟩ := frs_snoc.1 m.frs
  have nd := m.nd
  rw [frBl_app] at nd
  simp only [frBl, List.append_nil, List.append_assoc, List.cons_append] at nd
  obtain ⟨n1, n2, n3⟩ := List.nodup_append.1 nd
  have a1 : h.a ∉ frBl F := fun hh => n3 _ hh h.a (by simp) rfl
  have a2 := (List.nodup_cons.1 n2).1
  simp only [List.mem_append, not_or] at a2
  have c1 := m.cpo
  rw [frBl_app] at c1
  simp only [frBl, List.mem_append, List.mem_cons, List.append_nil, not_or] at c1
  have hC : Ch (S1 h.a) w (w.setCell ⟨h.a, if h.d then 2 else 1, none⟩ (.pointer (some ⟨a, 0, none⟩))) := Ch.setCell (S := S1 h.a) (Ch.refl _ w) ⟨h.a, if h.d then 2 else 1, none⟩ (fun _ => rfl) _
  have ne : ∀ {L : List Nat}, h.a ∉ L → ∀ x ∈ L, ¬ S1 h.a x := fun hh x hx e => hh (by rw [← show x = h.a from e]; exact hx)
  have hadr : (zip (F ++ [h]) P).adr = some r0 := by
    rw [zip_adr]
    have := m.tp
    cases F with
    | nil => exact this
    | cons f F => exact this
  have hperm := zip_bl (F ++ [h]) P
  refine ⟨⟨?_, ?_, hperm.nodup_iff.2 m.nd, hA, hO, fun hh => m.cpo (hperm.mem_iff.1 hh), by omega⟩, ?_, ?_, fun x hx => m.old x (hperm.mem_iff.1 hx)⟩
  · rw [hadr, hn]
    exact m.ow.keep hC (fun e => c1.1.2.1 (show cp = h.a from e))
  · rw [rep_zip]
    refine ⟨frs_snoc.2 ⟨f1.keep hC (ne a1), ?_, g2.keep hC (ne a2.1)⟩, m.rep.keep hC (ne a2.2)⟩
    have := g1.set (if h.d then 2 else 1) (.pointer (some ⟨a, 0, none⟩))
    rw [ha]
    unfold Fr.cells at this ⊢
    cases hd : h.d <;> rw [hd] at this <;> simp only [ncell, if_true, if_false, Bool.false_eq_true] at this ⊢ <;> exact this
  · refine m.ch.trans' hC (fun i hi e => ?_)
    have e : i = h.a := e
    rcases m.new h (by simp) with e1 | e1
    · exact Or.inr (by rw [e, e1])
    · omega
  · intro x hx
    rw [hadr] at hx
    cases hx
    exact Or.inl rfl
end Go.Proofs.Ytlppnbmaedgodaa
