/- WALKS: a new node comes into a heap. -/
import Derived.Test.YtbfcnimebdoagaaFA
namespace Go.Proofs.Ytbfcnimebdoagaa
open Go.RowKit
set_option linter.unusedVariables false
set_option linter.unusedSimpArgs false

set_option maxRecDepth 100000 in
theorem new_any (p : Int) (w : World) : Calls Try.prog 49 #[.float .f64 (floatOfInt .f64 p)] w fun r w' => r = .returned (.pointer (some ⟨w.heap.size, 0, none⟩)) ∧ (∀ s : FS, Blk w' w.heap.size (cells (s.new w.heap.size p) w.heap.size)) ∧ Ch S0 w w' := by
  obtain ⟨fl, hfl⟩ : ∃ x, x = floatOfInt .f64 p := ⟨_, rfl⟩
  have HB := Lib.hid (Blk.new w #[Value.int IntKind.i64 0, Value.bool false, Value.pointer (some { block := w.heap.size, off := 0 }), Value.pointer (some { block := w.heap.size, off := 0 }), Value.pointer none, Value.pointer none, Value.float FloatKind.f64 fl] 97)
  have HF := Lib.hid hfl
  rw [← hfl]
  clear hfl
  have hst : ∀ (a : Addr) (x : Nat) (m : Mode) (w : World), (store a (.float .f64 x) m).run Try.prog w = stored Try.prog w a (.float .f64 x) m := fun a x m w => run_store _ w a _ m rfl
  go_enter Try.func49, Try.ntmps49
  go_wp2_with fail
  go_ret
  refine ⟨rfl, fun s => ?_, (Ch.refl _ _).alloc _⟩
  have e : cells (s.new w.heap.size p) w.heap.size = #[Value.int IntKind.i64 0, Value.bool false, Value.pointer (some { block := w.heap.size, off := 0 }), Value.pointer (some { block := w.heap.size, off := 0 }), Value.pointer none, Value.pointer none, Value.float FloatKind.f64 fl] := by
    rw [HF.out]; simp [cells, FS.new, op]
  rw [e]
  exact HB.out
theorem store_ok {w : World} {a : Addr} {u : Value} (v : Value) (hv : v.oneCell' = true) (hc : w.cell? a = some u) (hf : w.frozen? a = false) (m : Mode) : (store a v m).run Try.prog w = .ok () (w.setCell a v) := by
  rw [run_store _ w a _ m hv, hc, hf]
  rfl
theorem store_op {w : World} {a : Addr} {u : Value} (o : Option Nat) (hc : w.cell? a = some u) (hf : w.frozen? a = false) (m : Mode) : (store a (op o) m).run Try.prog w = .ok () (w.setCell a (op o)) := store_ok _ (by cases o <;> rfl) hc hf m
/-- A heap in memory: its own block, its nodes. -/
structure FHp (w : World) (hb : Nat) (N : List Nat) (s : FS) (G : Option Nat → List Nat) (h : Nat → Nat) (mn : Option Nat) : Prop where
  blk : Blk w hb #[op mn, .int .u64 N.length]
  mem : Mem w N s
  sm : Sm N s
  hp : HP N s G h mn
  out : hb ∉ N
  few : N.length < 100000
/-- The blocks of a heap. -/
def SH (hb : Nat) (N : List Nat) : Nat → Prop := fun k => k = hb ∨ k ∈ N
theorem FHp.keep {S : Nat → Prop} {w w' : World} {hb : Nat} {N : List Nat} {s : FS} {G : Option Nat → List Nat} {h : Nat → Nat} {mn : Option Nat} (f : FHp w hb N s G h mn) (hc : Ch S w w') (h1 : ¬ S hb) (h2 : ∀ a ∈ N, ¬ S a) : FHp w' hb N s G h mn :=
  ⟨f.blk.keep hc h1, f.mem.keep hc h2, f.sm, f.hp, f.out, f.few⟩
theorem Sm.mst {N : List Nat} {s : FS} {o1 o2 : Option Nat} (h : Sm N s) : Sm N (mst s o1 o2) := fun a ha => by rw [mst_pr]; exact h a ha
theorem mst_none (s : FS) (o : Option Nat) : mst s o none = s := by unfold mst; split <;> simp_all
theorem new_mem {w w1 : World} {N : List Nat} {s : FS} {p : Int} (hM : Mem w N s) (hB : Blk w1 w.heap.size (cells (s.new w.heap.size p) w.heap.size)) (hC : Ch S0 w w1) : Mem w1 (w.heap.size :: N) (s.new w.heap.size p) := by
  intro a ha
  rcases List.mem_cons.1 ha with e | e
  · subst e; exact hB
  · have hne : a ≠ w.heap.size := fun e2 => by have := hM.lt e; omega
    have := (hM a e).keep hC (fun h => h)
    rw [show cells (s.new w.heap.size p) a = cells s a from cells_ext (upd_ne _ _ hne) (upd_ne _ _ hne) (upd_ne _ _ hne) (upd_ne _ _ hne) (upd_ne _ _ hne) (upd_ne _ _ hne) (upd_ne _ _ hne)]
    exact this
theorem new_sm {N : List Nat} {s : FS} {p : Int} {x : Nat} (h : Sm N s) (hp : p.natAbs < 2 ^ 53) : Sm (x :: N) (s.new x p) := by
  intro a ha
  show (upd s.pr x p a).natAbs < _
  by_cases e : a = x
  · subst e; rw [upd_at]; exact hp
  · rw [upd_ne _ _ e]; exact h a ((List.mem_cons.1 ha).resolve_left e)
theorem enq_in {w : World} {hb : Nat} {N : List Nat} {s : FS} {G : Option Nat → List Nat} {h : Nat → Nat} {mn : Option Nat} {p : Int} {a : Nat} (hx : w.heap.size ∉ N) (f : FHp w hb N s G h mn) (e : mn = some a) : a ∈ w.heap.size :: N ∧ (s.new w.heap.size p).nx a ∈ w.heap.size :: N := by
  have ha := f.hp.wf.rings.mem (f.hp.least a e).1
  refine ⟨List.mem_cons_of_mem _ ha, List.mem_cons_of_mem _ ?_⟩
  rw [show (s.new w.heap.size p).nx a = s.nx a from upd_ne _ _ (fun e2 => hx (e2 ▸ ha))]
  exact f.hp.wf.rings.nextN ha
theorem enq_new {w : World} {N : List Nat} {s : FS} {p : Int} : w.heap.size ∈ w.heap.size :: N ∧ (s.new w.heap.size p).nx w.heap.size ∈ w.heap.size :: N := by
  exact ⟨by simp, by rw [show (s.new w.heap.size p).nx w.heap.size = w.heap.size from upd_at _ _ _]; simp⟩
theorem enq_ne {w : World} {hb : Nat} {N : List Nat} {s : FS} {G : Option Nat → List Nat} {h : Nat → Nat} {mn : Option Nat} {a : Nat} (hx : w.heap.size ∉ N) (f : FHp w hb N s G h mn) (e : mn = some a) : a ≠ w.heap.size := by
  exact fun e3 => hx (e3 ▸ f.hp.wf.rings.mem (f.hp.least a e).1)
theorem enq_out {w : World} {hb : Nat} {N : List Nat} {s : FS} {G : Option Nat → List Nat} {h : Nat → Nat} {mn : Option Nat} (f : FHp w hb N s G h mn) : ¬ SN (w.heap.size :: N) hb := by
  intro h
  rcases List.mem_cons.1 h with e | e
  · have := f.blk.lt; omega
  · exact f.out e
def EnqR (w : World) (hb : Nat) (N : List Nat) (s : FS) (G : Option Nat → List Nat) (h : Nat → Nat) (mn : Option Nat) (p : Int) (w' : World) : Prop :=
  FHp w' hb (w.heap.size :: N) (mst (s.new w.heap.size p) mn (some w.heap.size)) (ups G none (w.heap.size :: G none)) h (mres (s.new w.heap.size p) mn (some w.heap.size))
set_option maxRecDepth 100000 in
theorem enq_any (hb : Nat) (N : List Nat) (s : FS) (G : Option Nat → List Nat) (h : Nat → Nat) (mn : Option Nat) (p : Int) (w : World) (f : FHp w hb N s G h mn) (hp : p.natAbs < 2 ^ 53) (hN : N.length + 1 < 100000) :
    Calls Try.prog 35 #[.pointer (some ⟨hb, 0, none⟩), .float .f64 (floatOfInt .f64 p)] w fun r w' => r = .returned (.pointer (some ⟨w.heap.size, 0, none⟩)) ∧ EnqR w hb N s G h mn p w' ∧ Ch (SH hb N) w w' := by
  have hbl := f.blk.lt
  have hx : w.heap.size ∉ N := fun e => by have := f.mem.lt e; omega
  have HX := Lib.hid hx
  have HF := Lib.hid f
  have HP := Lib.hid hp
  have HNl := Lib.hid hN
  have hN2 : ((N.length : Nat) : Int) + 1 < 100000 := by omega
  have hN0 : (0 : Int) ≤ (N.length : Nat) := by omega
  obtain ⟨y, hy, _⟩ := mres_some (s.new w.heap.size p) mn w.heap.size
  have HY := Lib.hid hy
  clear f hp hx hN hy
  go_enter Try.func35, Try.ntmps35
  go_wp2_with (first | (go_at_call 49; refine (new_any p _).mono ?_; rintro r w1 ⟨rfl, hB1, hC1⟩; have b1 := HF.out.blk.keep hC1 (fun h => h); have q0 := b1.cell 0; have hM1 := new_mem (s := s) (p := p) HF.out.mem (hB1 s) hC1; have HM1 := Lib.hid hM1; have HB1 := Lib.hid b1; have HC1 := Lib.hid hC1; simp only [List.getElem?_toArray, List.getElem?_cons_zero] at q0; clear hB1 b1 hC1 hM1) | (go_at_call 50; refine (merge_to (w.heap.size :: N) (s.new w.heap.size p) mn w.heap.size y HY.out _ HM1.out (new_sm HF.out.sm HP.out) (fun _ e => enq_in HX.out HF.out e) enq_new (fun _ e => enq_ne HX.out HF.out e)).mono ?_; rintro r w2 ⟨rfl, hM2, hC2⟩; have b2 := HB1.out.keep hC2 (enq_out HF.out); have q2 := b2.cell 0; have f2 := b2.free 0; have b3 := b2.set 0 (.pointer (some ⟨y, 0, none⟩)); have q1 := b3.cell 1; have f1 := b3.free 1; simp only [List.getElem?_toArray, List.getElem?_cons_zero, List.getElem?_cons_succ, List.setIfInBounds_toArray, List.set_cons_zero] at q1 q2; have HM2 := Lib.hid hM2; have HC2 := Lib.hid hC2; have HB3 := Lib.hid b3; clear b2 b3 hM2 hC2))
  go_ret
  have hb4 := HB3.out.set 1 (.int .u64 ((N.length : Nat) + 1 : Int))
  simp only [List.setIfInBounds_toArray, List.set_cons_zero, List.set_cons_succ] at hb4
  have hCw : Ch (SH hb N) w w2 := (HC1.out.mono (fun _ _ h => h.elim)).trans' HC2.out (fun i hi h => (List.mem_cons.1 h).elim (fun e => absurd hi (by rw [e]; exact Nat.lt_irrefl _)) Or.inr)
  have hCx := Ch.setCell (S := SH hb N) (p := ⟨hb, 0, none⟩) hCw (fun _ => Or.inl rfl) (.pointer (some ⟨y, 0, none⟩))
  have hCy := Ch.setCell (S := SH hb N) (p := ⟨hb, 1, none⟩) hCx (fun _ => Or.inl rfl) (.int .u64 ((N.length : Nat) + 1 : Int))
  have hMx := (HM2.out.keep ((Ch.refl (S1 hb) w2).setCell ⟨hb, 0, none⟩ (fun _ => rfl) (.pointer (some ⟨y, 0, none⟩))) (fun a ha e => enq_out HF.out (e ▸ ha)))
  have hMy := hMx.keep ((Ch.refl (S1 hb) _).setCell ⟨hb, 1, none⟩ (fun _ => rfl) (.int .u64 ((N.length : Nat) + 1 : Int))) (fun a ha e => enq_out HF.out (e ▸ ha))
  refine ⟨rfl, ⟨?_, hMy, (new_sm HF.out.sm HP.out).mst, HF.out.hp.enq p HX.out, enq_out HF.out, by simpa using HNl.out⟩, hCy⟩
  rw [HY.out]
  simpa [op] using hb4
end Go.Proofs.Ytbfcnimebdoagaa
