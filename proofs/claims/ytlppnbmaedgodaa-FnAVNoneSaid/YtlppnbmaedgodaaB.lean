/- WALKS: nodes turned about. -/
import Derived.Test.YtlppnbmaedgodaaA
namespace Go.Proofs.Ytlppnbmaedgodaa
open Go.RowKit
set_option linter.unusedVariables false
set_option linter.unusedSimpArgs false

def nc (b : Int) (p1 p2 : Option Addr) (e : Value) : Array Value := #[.int .i8 b, .pointer p1, .pointer p2, e]
def at0 (a : Nat) : Option Addr := some ⟨a, 0, none⟩
set_option maxHeartbeats 4000000 in
set_option maxRecDepth 100000 in
theorem rot0 (a c : Nat) (b1 b2 : Int) (x y z : Option Addr) (e1 e2 : Value) (w : World) (hne : a ≠ c) (h1 : Blk w a (nc b1 x (at0 c) e1)) (h2 : Blk w c (nc b2 y z e2)) :
    Calls Try.prog 42 #[.pointer (some ⟨a, 0, none⟩), .int .i64 0] w fun r w' => r = .returned (.pointer (some ⟨c, 0, none⟩)) ∧ Blk w' a (nc b1 x y e1) ∧ Blk w' c (nc b2 (at0 a) z e2) ∧ Ch (S2 a c) w w' := by
  have c2 := h1.cell 2
  have d1 := h2.cell 1
  have f2 := h1.free 2
  have g1 := h1.set 2 (.pointer y)
  have g2 := (h2.setOther (p := ⟨a, 2, none⟩) hne (.pointer y))
  have d1' := g2.cell 1
  have f1' := g2.free 1
  have k1 := (g1.setOther (p := ⟨c, 1, none⟩) (Ne.symm hne) (.pointer (some ⟨a, 0, none⟩)))
  have k2 := g2.set 1 (.pointer (some ⟨a, 0, none⟩))
  have HC : Hid (Ch (S2 a c) w ((w.setCell ⟨a, 2, none⟩ (.pointer y)).setCell ⟨c, 1, none⟩ (.pointer (some ⟨a, 0, none⟩)))) := Lib.hid (((Ch.refl (S2 a c) w).setCell ⟨a, 2, none⟩ (fun _ => Or.inl rfl) _).setCell ⟨c, 1, none⟩ (fun _ => Or.inr rfl) _)
  have K1 := Lib.hid k1
  have K2 := Lib.hid k2
  simp only [nc, at0, List.getElem?_toArray, List.getElem?_cons_zero, List.getElem?_cons_succ] at c2 d1 d1'
  clear h1 h2 g1 g2 k1 k2 hne
  go_enter Try.func42, Try.ntmps42
  go_wp2_with (go_at_call 43; refine (opp0 _).mono ?_; rintro r w4 ⟨rfl, rfl⟩)
  go_region
  all_goals go_wp2_with fail
  all_goals go_ret
  all_goals exact ⟨rfl, K1.out, K2.out, HC.out.drew⟩
set_option maxHeartbeats 4000000 in
set_option maxRecDepth 100000 in
theorem rot1 (a c : Nat) (b1 b2 : Int) (x y z : Option Addr) (e1 e2 : Value) (w : World) (hne : a ≠ c) (h1 : Blk w a (nc b1 (at0 c) x e1)) (h2 : Blk w c (nc b2 z y e2)) :
    Calls Try.prog 42 #[.pointer (some ⟨a, 0, none⟩), .int .i64 1] w fun r w' => r = .returned (.pointer (some ⟨c, 0, none⟩)) ∧ Blk w' a (nc b1 y x e1) ∧ Blk w' c (nc b2 z (at0 a) e2) ∧ Ch (S2 a c) w w' := by
  have c2 := h1.cell 1
  have d1 := h2.cell 2
  have f2 := h1.free 1
  have g1 := h1.set 1 (.pointer y)
  have g2 := (h2.setOther (p := ⟨a, 1, none⟩) hne (.pointer y))
  have d1' := g2.cell 2
  have f1' := g2.free 2
  have k1 := (g1.setOther (p := ⟨c, 2, none⟩) (Ne.symm hne) (.pointer (some ⟨a, 0, none⟩)))
  have k2 := g2.set 2 (.pointer (some ⟨a, 0, none⟩))
  have HC : Hid (Ch (S2 a c) w ((w.setCell ⟨a, 1, none⟩ (.pointer y)).setCell ⟨c, 2, none⟩ (.pointer (some ⟨a, 0, none⟩)))) := Lib.hid (((Ch.refl (S2 a c) w).setCell ⟨a, 1, none⟩ (fun _ => Or.inl rfl) _).setCell ⟨c, 2, none⟩ (fun _ => Or.inr rfl) _)
  have K1 := Lib.hid k1
  have K2 := Lib.hid k2
  simp only [nc, at0, List.getElem?_toArray, List.getElem?_cons_zero, List.getElem?_cons_succ] at c2 d1 d1'
  clear h1 h2 g1 g2 k1 k2 hne
  go_enter Try.func42, Try.ntmps42
  go_wp2_with (go_at_call 43; refine (opp1 _).mono ?_; rintro r w4 ⟨rfl, rfl⟩)
  go_region
  all_goals go_wp2_with fail
  all_goals go_ret
  all_goals exact ⟨rfl, K1.out, K2.out, HC.out.drew⟩

def S3 (a b c : Nat) : Nat → Prop := fun k => k = a ∨ k = b ∨ k = c
theorem Ch.drewN {S : Nat → Prop} {a w : World} (h : Ch S a w) (n : Nat) : Ch S a (w.drewN n) := ⟨h.os, h.tape, h.output, h.size, h.block⟩
theorem Blk.drewN {w : World} {b : Nat} {c : Array Value} (h : Blk w b c) (n : Nat) : Blk (w.drewN n) b c := h
theorem dbl_ne {a c m : Nat} (h1 : a ≠ c) (h2 : a ≠ m) : ¬ S2 c m a := fun h => h.elim h1 h2
theorem dbl_ne2 {a c m : Nat} (h1 : a ≠ c) (h2 : c ≠ m) : ¬ S2 a m c := fun h => h.elim (fun e => h1 e.symm) h2
theorem dbl_s {w : World} {a c m : Nat} : ∀ k, k < w.heap.size → S2 c m k → S3 a c m k := fun k _ h => Or.inr h
theorem dbl_s2 {w : World} {a c m : Nat} : ∀ k, k < w.heap.size → S2 a m k → S3 a c m k := fun k _ h => h.elim Or.inl (fun e => Or.inr (Or.inr e))

set_option maxHeartbeats 4000000 in
set_option maxRecDepth 100000 in
theorem adj1n (a c m : Nat) (b1 b2 : Int) (x z u v : Option Addr) (e1 e2 e3 : Value) (w : World) (n1 : a ≠ c) (n2 : a ≠ m) (n3 : c ≠ m) (h1 : Blk w a (nc b1 x (at0 c) e1)) (h2 : Blk w c (nc b2 (at0 m) z e2)) (h3 : Blk w m (nc (-1) u v e3)) :
    Calls Try.prog 44 #[.pointer (some ⟨a, 0, none⟩), .int .i64 1, .int .i64 1] w fun r w' => r = .returned (.tuple #[]) ∧ Blk w' a (nc 0 x (at0 c) e1) ∧ Blk w' c (nc 1 (at0 m) z e2) ∧ Blk w' m (nc 0 u v e3) ∧ Ch (S3 a c m) w w' := by
  have c1 := h1.cell 2
  have c2 := h2.cell 1
  simp only [nc, at0, List.getElem?_toArray, List.getElem?_cons_zero, List.getElem?_cons_succ] at c1 c2
  have H1 := Lib.hid h1
  have H2 := Lib.hid h2
  have H3 := Lib.hid h3
  clear h1 h2 h3
  go_enter Try.func44, Try.ntmps44
  go_wp2_with fail
  go_quiet ((go_at_call 43; exact Calls.quiet_of_same (opp1 _)))
  obtain ⟨W, hW⟩ : ∃ W, W = w.drewN nq := ⟨_, rfl⟩
  have h1 : Blk W a (nc b1 x (at0 c) e1) := by rw [hW]; exact H1.out
  have h2 : Blk W c (nc b2 (at0 m) z e2) := by rw [hW]; exact H2.out
  have h3 : Blk W m (nc (-1) u v e3) := by rw [hW]; exact H3.out
  have hC : Ch (S3 a c m) w W := by rw [hW]; exact (Ch.refl _ w).drewN _
  rw [← hW]
  clear hW c1 c2 H1 H2 H3
  have c3 := h3.cell 0
  have f1 := h1.free 0
  have c0 := h1.cell 0
  have g1 := h1.set 0 (.int .i8 0)
  have g2 := h2.setOther (p := ⟨a, 0, none⟩) n1 (.int .i8 0)
  have g3 := h3.setOther (p := ⟨a, 0, none⟩) n2 (.int .i8 0)
  have f2 := g2.free 0
  have d2 := g2.cell 0
  have k1 := g1.setOther (p := ⟨c, 0, none⟩) (Ne.symm n1) (.int .i8 1)
  have k2 := g2.set 0 (.int .i8 1)
  have k3 := g3.setOther (p := ⟨c, 0, none⟩) n3 (.int .i8 1)
  have f3 := k3.free 0
  have d3 := k3.cell 0
  have K1 := Lib.hid (k1.setOther (p := ⟨m, 0, none⟩) (Ne.symm n2) (.int .i8 0))
  have K2 := Lib.hid (k2.setOther (p := ⟨m, 0, none⟩) (Ne.symm n3) (.int .i8 0))
  have K3 := Lib.hid (k3.set 0 (.int .i8 0))
  have HC : Hid (Ch (S3 a c m) w (((W.setCell ⟨a, 0, none⟩ (.int .i8 0)).setCell ⟨c, 0, none⟩ (.int .i8 1)).setCell ⟨m, 0, none⟩ (.int .i8 0))) := Lib.hid (((hC.setCell ⟨a, 0, none⟩ (fun _ => Or.inl rfl) _).setCell ⟨c, 0, none⟩ (fun _ => Or.inr (Or.inl rfl)) _).setCell ⟨m, 0, none⟩ (fun _ => Or.inr (Or.inr rfl)) _)
  simp only [nc, at0, List.getElem?_toArray, List.getElem?_cons_zero, List.getElem?_cons_succ, List.setIfInBounds_toArray, List.set_cons_zero] at c0 c3 d2 d3
  clear h1 h2 h3 g1 g2 g3 k1 k2 k3 n1 n2 n3 hC
  go_wp2_with fail
  refine bodyPost_end (results_none rfl _ _ _) rfl ?_
  exact ⟨rfl, K1.out, K2.out, K3.out, HC.out⟩

set_option maxHeartbeats 4000000 in
set_option maxRecDepth 100000 in
theorem adj1z (a c m : Nat) (b1 b2 : Int) (x z u v : Option Addr) (e1 e2 e3 : Value) (w : World) (n1 : a ≠ c) (n2 : a ≠ m) (n3 : c ≠ m) (h1 : Blk w a (nc b1 x (at0 c) e1)) (h2 : Blk w c (nc b2 (at0 m) z e2)) (h3 : Blk w m (nc 0 u v e3)) :
    Calls Try.prog 44 #[.pointer (some ⟨a, 0, none⟩), .int .i64 1, .int .i64 1] w fun r w' => r = .returned (.tuple #[]) ∧ Blk w' a (nc 0 x (at0 c) e1) ∧ Blk w' c (nc 0 (at0 m) z e2) ∧ Blk w' m (nc 0 u v e3) ∧ Ch (S3 a c m) w w' := by
  have c1 := h1.cell 2
  have c2 := h2.cell 1
  simp only [nc, at0, List.getElem?_toArray, List.getElem?_cons_zero, List.getElem?_cons_succ] at c1 c2
  have H1 := Lib.hid h1
  have H2 := Lib.hid h2
  have H3 := Lib.hid h3
  clear h1 h2 h3
  go_enter Try.func44, Try.ntmps44
  go_wp2_with fail
  go_quiet ((go_at_call 43; exact Calls.quiet_of_same (opp1 _)))
  obtain ⟨W, hW⟩ : ∃ W, W = w.drewN nq := ⟨_, rfl⟩
  have h1 : Blk W a (nc b1 x (at0 c) e1) := by rw [hW]; exact H1.out
  have h2 : Blk W c (nc b2 (at0 m) z e2) := by rw [hW]; exact H2.out
  have h3 : Blk W m (nc 0 u v e3) := by rw [hW]; exact H3.out
  have hC : Ch (S3 a c m) w W := by rw [hW]; exact (Ch.refl _ w).drewN _
  rw [← hW]
  clear hW c1 c2 H1 H2 H3
  have c3 := h3.cell 0
  have f1 := h1.free 0
  have c0 := h1.cell 0
  have g1 := h1.set 0 (.int .i8 0)
  have g2 := h2.setOther (p := ⟨a, 0, none⟩) n1 (.int .i8 0)
  have g3 := h3.setOther (p := ⟨a, 0, none⟩) n2 (.int .i8 0)
  have f2 := g2.free 0
  have d2 := g2.cell 0
  have k1 := g1.setOther (p := ⟨c, 0, none⟩) (Ne.symm n1) (.int .i8 0)
  have k2 := g2.set 0 (.int .i8 0)
  have k3 := g3.setOther (p := ⟨c, 0, none⟩) n3 (.int .i8 0)
  have f3 := k3.free 0
  have d3 := k3.cell 0
  have K1 := Lib.hid (k1.setOther (p := ⟨m, 0, none⟩) (Ne.symm n2) (.int .i8 0))
  have K2 := Lib.hid (k2.setOther (p := ⟨m, 0, none⟩) (Ne.symm n3) (.int .i8 0))
  have K3 := Lib.hid (k3.set 0 (.int .i8 0))
  have HC : Hid (Ch (S3 a c m) w (((W.setCell ⟨a, 0, none⟩ (.int .i8 0)).setCell ⟨c, 0, none⟩ (.int .i8 0)).setCell ⟨m, 0, none⟩ (.int .i8 0))) := Lib.hid (((hC.setCell ⟨a, 0, none⟩ (fun _ => Or.inl rfl) _).setCell ⟨c, 0, none⟩ (fun _ => Or.inr (Or.inl rfl)) _).setCell ⟨m, 0, none⟩ (fun _ => Or.inr (Or.inr rfl)) _)
  simp only [nc, at0, List.getElem?_toArray, List.getElem?_cons_zero, List.getElem?_cons_succ, List.setIfInBounds_toArray, List.set_cons_zero] at c0 c3 d2 d3
  clear h1 h2 h3 g1 g2 g3 k1 k2 k3 n1 n2 n3 hC
  go_wp2_with fail
  refine bodyPost_end (results_none rfl _ _ _) rfl ?_
  exact ⟨rfl, K1.out, K2.out, K3.out, HC.out⟩

set_option maxHeartbeats 4000000 in
set_option maxRecDepth 100000 in
theorem adj1p (a c m : Nat) (b1 b2 : Int) (x z u v : Option Addr) (e1 e2 e3 : Value) (w : World) (n1 : a ≠ c) (n2 : a ≠ m) (n3 : c ≠ m) (h1 : Blk w a (nc b1 x (at0 c) e1)) (h2 : Blk w c (nc b2 (at0 m) z e2)) (h3 : Blk w m (nc 1 u v e3)) :
    Calls Try.prog 44 #[.pointer (some ⟨a, 0, none⟩), .int .i64 1, .int .i64 1] w fun r w' => r = .returned (.tuple #[]) ∧ Blk w' a (nc (-1) x (at0 c) e1) ∧ Blk w' c (nc 0 (at0 m) z e2) ∧ Blk w' m (nc 0 u v e3) ∧ Ch (S3 a c m) w w' := by
  have c1 := h1.cell 2
  have c2 := h2.cell 1
  simp only [nc, at0, List.getElem?_toArray, List.getElem?_cons_zero, List.getElem?_cons_succ] at c1 c2
  have H1 := Lib.hid h1
  have H2 := Lib.hid h2
  have H3 := Lib.hid h3
  clear h1 h2 h3
  go_enter Try.func44, Try.ntmps44
  go_wp2_with fail
  go_quiet ((go_at_call 43; exact Calls.quiet_of_same (opp1 _)))
  obtain ⟨W, hW⟩ : ∃ W, W = w.drewN nq := ⟨_, rfl⟩
  have h1 : Blk W a (nc b1 x (at0 c) e1) := by rw [hW]; exact H1.out
  have h2 : Blk W c (nc b2 (at0 m) z e2) := by rw [hW]; exact H2.out
  have h3 : Blk W m (nc 1 u v e3) := by rw [hW]; exact H3.out
  have hC : Ch (S3 a c m) w W := by rw [hW]; exact (Ch.refl _ w).drewN _
  rw [← hW]
  clear hW c1 c2 H1 H2 H3
  have c3 := h3.cell 0
  have f1 := h1.free 0
  have c0 := h1.cell 0
  have g1 := h1.set 0 (.int .i8 (-1))
  have g2 := h2.setOther (p := ⟨a, 0, none⟩) n1 (.int .i8 (-1))
  have g3 := h3.setOther (p := ⟨a, 0, none⟩) n2 (.int .i8 (-1))
  have f2 := g2.free 0
  have d2 := g2.cell 0
  have k1 := g1.setOther (p := ⟨c, 0, none⟩) (Ne.symm n1) (.int .i8 0)
  have k2 := g2.set 0 (.int .i8 0)
  have k3 := g3.setOther (p := ⟨c, 0, none⟩) n3 (.int .i8 0)
  have f3 := k3.free 0
  have d3 := k3.cell 0
  have K1 := Lib.hid (k1.setOther (p := ⟨m, 0, none⟩) (Ne.symm n2) (.int .i8 0))
  have K2 := Lib.hid (k2.setOther (p := ⟨m, 0, none⟩) (Ne.symm n3) (.int .i8 0))
  have K3 := Lib.hid (k3.set 0 (.int .i8 0))
  have HC : Hid (Ch (S3 a c m) w (((W.setCell ⟨a, 0, none⟩ (.int .i8 (-1))).setCell ⟨c, 0, none⟩ (.int .i8 0)).setCell ⟨m, 0, none⟩ (.int .i8 0))) := Lib.hid (((hC.setCell ⟨a, 0, none⟩ (fun _ => Or.inl rfl) _).setCell ⟨c, 0, none⟩ (fun _ => Or.inr (Or.inl rfl)) _).setCell ⟨m, 0, none⟩ (fun _ => Or.inr (Or.inr rfl)) _)
  simp only [nc, at0, List.getElem?_toArray, List.getElem?_cons_zero, List.getElem?_cons_succ, List.setIfInBounds_toArray, List.set_cons_zero] at c0 c3 d2 d3
  clear h1 h2 h3 g1 g2 g3 k1 k2 k3 n1 n2 n3 hC
  go_wp2_with fail
  refine bodyPost_end (results_none rfl _ _ _) rfl ?_
  exact ⟨rfl, K1.out, K2.out, K3.out, HC.out⟩

set_option maxHeartbeats 4000000 in
set_option maxRecDepth 100000 in
theorem adj0n (a c m : Nat) (b1 b2 : Int) (x z u v : Option Addr) (e1 e2 e3 : Value) (w : World) (n1 : a ≠ c) (n2 : a ≠ m) (n3 : c ≠ m) (h1 : Blk w a (nc b1 (at0 c) x e1)) (h2 : Blk w c (nc b2 z (at0 m) e2)) (h3 : Blk w m (nc (-1) u v e3)) :
    Calls Try.prog 44 #[.pointer (some ⟨a, 0, none⟩), .int .i64 0, .int .i64 (-1)] w fun r w' => r = .returned (.tuple #[]) ∧ Blk w' a (nc 1 (at0 c) x e1) ∧ Blk w' c (nc 0 z (at0 m) e2) ∧ Blk w' m (nc 0 u v e3) ∧ Ch (S3 a c m) w w' := by
  have c1 := h1.cell 1
  have c2 := h2.cell 2
  simp only [nc, at0, List.getElem?_toArray, List.getElem?_cons_zero, List.getElem?_cons_succ] at c1 c2
  have H1 := Lib.hid h1
  have H2 := Lib.hid h2
  have H3 := Lib.hid h3
  clear h1 h2 h3
  go_enter Try.func44, Try.ntmps44
  go_wp2_with fail
  go_quiet ((go_at_call 43; exact Calls.quiet_of_same (opp0 _)))
  obtain ⟨W, hW⟩ : ∃ W, W = w.drewN nq := ⟨_, rfl⟩
  have h1 : Blk W a (nc b1 (at0 c) x e1) := by rw [hW]; exact H1.out
  have h2 : Blk W c (nc b2 z (at0 m) e2) := by rw [hW]; exact H2.out
  have h3 : Blk W m (nc (-1) u v e3) := by rw [hW]; exact H3.out
  have hC : Ch (S3 a c m) w W := by rw [hW]; exact (Ch.refl _ w).drewN _
  rw [← hW]
  clear hW c1 c2 H1 H2 H3
  have c3 := h3.cell 0
  have f1 := h1.free 0
  have c0 := h1.cell 0
  have g1 := h1.set 0 (.int .i8 1)
  have g2 := h2.setOther (p := ⟨a, 0, none⟩) n1 (.int .i8 1)
  have g3 := h3.setOther (p := ⟨a, 0, none⟩) n2 (.int .i8 1)
  have f2 := g2.free 0
  have d2 := g2.cell 0
  have k1 := g1.setOther (p := ⟨c, 0, none⟩) (Ne.symm n1) (.int .i8 0)
  have k2 := g2.set 0 (.int .i8 0)
  have k3 := g3.setOther (p := ⟨c, 0, none⟩) n3 (.int .i8 0)
  have f3 := k3.free 0
  have d3 := k3.cell 0
  have K1 := Lib.hid (k1.setOther (p := ⟨m, 0, none⟩) (Ne.symm n2) (.int .i8 0))
  have K2 := Lib.hid (k2.setOther (p := ⟨m, 0, none⟩) (Ne.symm n3) (.int .i8 0))
  have K3 := Lib.hid (k3.set 0 (.int .i8 0))
  have HC : Hid (Ch (S3 a c m) w (((W.setCell ⟨a, 0, none⟩ (.int .i8 1)).setCell ⟨c, 0, none⟩ (.int .i8 0)).setCell ⟨m, 0, none⟩ (.int .i8 0))) := Lib.hid (((hC.setCell ⟨a, 0, none⟩ (fun _ => Or.inl rfl) _).setCell ⟨c, 0, none⟩ (fun _ => Or.inr (Or.inl rfl)) _).setCell ⟨m, 0, none⟩ (fun _ => Or.inr (Or.inr rfl)) _)
  simp only [nc, at0, List.getElem?_toArray, List.getElem?_cons_zero, List.getElem?_cons_succ, List.setIfInBounds_toArray, List.set_cons_zero] at c0 c3 d2 d3
  clear h1 h2 h3 g1 g2 g3 k1 k2 k3 n1 n2 n3 hC
  go_wp2_with fail
  refine bodyPost_end (results_none rfl _ _ _) rfl ?_
  exact ⟨rfl, K1.out, K2.out, K3.out, HC.out⟩

set_option maxHeartbeats 4000000 in
set_option maxRecDepth 100000 in
theorem adj0z (a c m : Nat) (b1 b2 : Int) (x z u v : Option Addr) (e1 e2 e3 : Value) (w : World) (n1 : a ≠ c) (n2 : a ≠ m) (n3 : c ≠ m) (h1 : Blk w a (nc b1 (at0 c) x e1)) (h2 : Blk w c (nc b2 z (at0 m) e2)) (h3 : Blk w m (nc 0 u v e3)) :
    Calls Try.prog 44 #[.pointer (some ⟨a, 0, none⟩), .int .i64 0, .int .i64 (-1)] w fun r w' => r = .returned (.tuple #[]) ∧ Blk w' a (nc 0 (at0 c) x e1) ∧ Blk w' c (nc 0 z (at0 m) e2) ∧ Blk w' m (nc 0 u v e3) ∧ Ch (S3 a c m) w w' := by
  have c1 := h1.cell 1
  have c2 := h2.cell 2
  simp only [nc, at0, List.getElem?_toArray, List.getElem?_cons_zero, List.getElem?_cons_succ] at c1 c2
  have H1 := Lib.hid h1
  have H2 := Lib.hid h2
  have H3 := Lib.hid h3
  clear h1 h2 h3
  go_enter Try.func44, Try.ntmps44
  go_wp2_with fail
  go_quiet ((go_at_call 43; exact Calls.quiet_of_same (opp0 _)))
  obtain ⟨W, hW⟩ : ∃ W, W = w.drewN nq := ⟨_, rfl⟩
  have h1 : Blk W a (nc b1 (at0 c) x e1) := by rw [hW]; exact H1.out
  have h2 : Blk W c (nc b2 z (at0 m) e2) := by rw [hW]; exact H2.out
  have h3 : Blk W m (nc 0 u v e3) := by rw [hW]; exact H3.out
  have hC : Ch (S3 a c m) w W := by rw [hW]; exact (Ch.refl _ w).drewN _
  rw [← hW]
  clear hW c1 c2 H1 H2 H3
  have c3 := h3.cell 0
  have f1 := h1.free 0
  have c0 := h1.cell 0
  have g1 := h1.set 0 (.int .i8 0)
  have g2 := h2.setOther (p := ⟨a, 0, none⟩) n1 (.int .i8 0)
  have g3 := h3.setOther (p := ⟨a, 0, none⟩) n2 (.int .i8 0)
  have f2 := g2.free 0
  have d2 := g2.cell 0
  have k1 := g1.setOther (p := ⟨c, 0, none⟩) (Ne.symm n1) (.int .i8 0)
  have k2 := g2.set 0 (.int .i8 0)
  have k3 := g3.setOther (p := ⟨c, 0, none⟩) n3 (.int .i8 0)
  have f3 := k3.free 0
  have d3 := k3.cell 0
  have K1 := Lib.hid (k1.setOther (p := ⟨m, 0, none⟩) (Ne.symm n2) (.int .i8 0))
  have K2 := Lib.hid (k2.setOther (p := ⟨m, 0, none⟩) (Ne.symm n3) (.int .i8 0))
  have K3 := Lib.hid (k3.set 0 (.int .i8 0))
  have HC : Hid (Ch (S3 a c m) w (((W.setCell ⟨a, 0, none⟩ (.int .i8 0)).setCell ⟨c, 0, none⟩ (.int .i8 0)).setCell ⟨m, 0, none⟩ (.int .i8 0))) := Lib.hid (((hC.setCell ⟨a, 0, none⟩ (fun _ => Or.inl rfl) _).setCell ⟨c, 0, none⟩ (fun _ => Or.inr (Or.inl rfl)) _).setCell ⟨m, 0, none⟩ (fun _ => Or.inr (Or.inr rfl)) _)
  simp only [nc, at0, List.getElem?_toArray, List.getElem?_cons_zero, List.getElem?_cons_succ, List.setIfInBounds_toArray, List.set_cons_zero] at c0 c3 d2 d3
  clear h1 h2 h3 g1 g2 g3 k1 k2 k3 n1 n2 n3 hC
  go_wp2_with fail
  refine bodyPost_end (results_none rfl _ _ _) rfl ?_
  exact ⟨rfl, K1.out, K2.out, K3.out, HC.out⟩

set_option maxHeartbeats 4000000 in
set_option maxRecDepth 100000 in
theorem adj0p (a c m : Nat) (b1 b2 : Int) (x z u v : Option Addr) (e1 e2 e3 : Value) (w : World) (n1 : a ≠ c) (n2 : a ≠ m) (n3 : c ≠ m) (h1 : Blk w a (nc b1 (at0 c) x e1)) (h2 : Blk w c (nc b2 z (at0 m) e2)) (h3 : Blk w m (nc 1 u v e3)) :
    Calls Try.prog 44 #[.pointer (some ⟨a, 0, none⟩), .int .i64 0, .int .i64 (-1)] w fun r w' => r = .returned (.tuple #[]) ∧ Blk w' a (nc 0 (at0 c) x e1) ∧ Blk w' c (nc (-1) z (at0 m) e2) ∧ Blk w' m (nc 0 u v e3) ∧ Ch (S3 a c m) w w' := by
  have c1 := h1.cell 1
  have c2 := h2.cell 2
  simp only [nc, at0, List.getElem?_toArray, List.getElem?_cons_zero, List.getElem?_cons_succ] at c1 c2
  have H1 := Lib.hid h1
  have H2 := Lib.hid h2
  have H3 := Lib.hid h3
  clear h1 h2 h3
  go_enter Try.func44, Try.ntmps44
  go_wp2_with fail
  go_quiet ((go_at_call 43; exact Calls.quiet_of_same (opp0 _)))
  obtain ⟨W, hW⟩ : ∃ W, W = w.drewN nq := ⟨_, rfl⟩
  have h1 : Blk W a (nc b1 (at0 c) x e1) := by rw [hW]; exact H1.out
  have h2 : Blk W c (nc b2 z (at0 m) e2) := by rw [hW]; exact H2.out
  have h3 : Blk W m (nc 1 u v e3) := by rw [hW]; exact H3.out
  have hC : Ch (S3 a c m) w W := by rw [hW]; exact (Ch.refl _ w).drewN _
  rw [← hW]
  clear hW c1 c2 H1 H2 H3
  have c3 := h3.cell 0
  have f1 := h1.free 0
  have c0 := h1.cell 0
  have g1 := h1.set 0 (.int .i8 0)
  have g2 := h2.setOther (p := ⟨a, 0, none⟩) n1 (.int .i8 0)
  have g3 := h3.setOther (p := ⟨a, 0, none⟩) n2 (.int .i8 0)
  have f2 := g2.free 0
  have d2 := g2.cell 0
  have k1 := g1.setOther (p := ⟨c, 0, none⟩) (Ne.symm n1) (.int .i8 (-1))
  have k2 := g2.set 0 (.int .i8 (-1))
  have k3 := g3.setOther (p := ⟨c, 0, none⟩) n3 (.int .i8 (-1))
  have f3 := k3.free 0
  have d3 := k3.cell 0
  have K1 := Lib.hid (k1.setOther (p := ⟨m, 0, none⟩) (Ne.symm n2) (.int .i8 0))
  have K2 := Lib.hid (k2.setOther (p := ⟨m, 0, none⟩) (Ne.symm n3) (.int .i8 0))
  have K3 := Lib.hid (k3.set 0 (.int .i8 0))
  have HC : Hid (Ch (S3 a c m) w (((W.setCell ⟨a, 0, none⟩ (.int .i8 0)).setCell ⟨c, 0, none⟩ (.int .i8 (-1))).setCell ⟨m, 0, none⟩ (.int .i8 0))) := Lib.hid (((hC.setCell ⟨a, 0, none⟩ (fun _ => Or.inl rfl) _).setCell ⟨c, 0, none⟩ (fun _ => Or.inr (Or.inl rfl)) _).setCell ⟨m, 0, none⟩ (fun _ => Or.inr (Or.inr rfl)) _)
  simp only [nc, at0, List.getElem?_toArray, List.getElem?_cons_zero, List.getElem?_cons_succ, List.setIfInBounds_toArray, List.set_cons_zero] at c0 c3 d2 d3
  clear h1 h2 h3 g1 g2 g3 k1 k2 k3 n1 n2 n3 hC
  go_wp2_with fail
  refine bodyPost_end (results_none rfl _ _ _) rfl ?_
  exact ⟨rfl, K1.out, K2.out, K3.out, HC.out⟩

set_option maxHeartbeats 4000000 in
set_option maxRecDepth 100000 in
theorem dbl0 (a c m : Nat) (b1 b2 b3 : Int) (x z u v : Option Addr) (e1 e2 e3 : Value) (w : World) (n1 : a ≠ c) (n2 : a ≠ m) (n3 : c ≠ m) (h1 : Blk w a (nc b1 x (at0 c) e1)) (h2 : Blk w c (nc b2 (at0 m) z e2)) (h3 : Blk w m (nc b3 u v e3)) :
    Calls Try.prog 45 #[.pointer (some ⟨a, 0, none⟩), .int .i64 0] w fun r w' => r = .returned (.pointer (some ⟨m, 0, none⟩)) ∧ Blk w' a (nc b1 x u e1) ∧ Blk w' c (nc b2 v z e2) ∧ Blk w' m (nc b3 (at0 a) (at0 c) e3) ∧ Ch (S3 a c m) w w' := by
  have c1 := h1.cell 2
  simp only [nc, at0, List.getElem?_toArray, List.getElem?_cons_zero, List.getElem?_cons_succ] at c1
  have H1 := Lib.hid h1
  have H2 := Lib.hid h2
  have H3 := Lib.hid h3
  have N1 := Lib.hid n1
  have N2 := Lib.hid n2
  have N3 := Lib.hid n3
  clear h1 h2 h3 n1 n2 n3
  go_enter Try.func45, Try.ntmps45
  go_wp2_with (go_at_call 43; refine (opp0 _).mono ?_; rintro r w4 ⟨rfl, rfl⟩)
  go_region_law (go_simp; go_at_call 42; (with_reducible refine (rot1 c m b2 b3 z v u e2 e3 _ N3.out H2.out.drew H3.out.drew).mono ?_); rintro r w5 ⟨rfl, hb2, hb3, hC⟩; have hb1 := H1.out.drew.keep hC (dbl_ne N1.out N2.out); have c4 := hb1.cell 2; have f4 := hb1.free 2; have HB1 := Lib.hid (hb1.set 2 (.pointer (some ⟨m, 0, none⟩))); have HB2 := Lib.hid (hb2.setOther (p := ⟨a, 2, none⟩) N1.out (.pointer (some ⟨m, 0, none⟩))); have HB3 := Lib.hid (hb3.setOther (p := ⟨a, 2, none⟩) N2.out (.pointer (some ⟨m, 0, none⟩))); have HC := Lib.hid hC; simp only [nc, at0, List.getElem?_toArray, List.getElem?_cons_zero, List.getElem?_cons_succ] at c4; clear hb1 hb2 hb3 hC)
  go_step
  have HC1 : Hid (Ch (S3 a c m) w4 (w5.setCell ⟨a, 2, none⟩ (.pointer (some ⟨m, 0, none⟩)))) := Lib.hid ((((Ch.refl (S3 a c m) w4).drew.trans (HC.out.mono dbl_s))).setCell ⟨a, 2, none⟩ (fun _ => Or.inl rfl) _)
  clear HC
  go_wp2_with (go_at_call 42; refine (rot0 a m b1 b3 x u (at0 c) e1 e3 _ N2.out HB1.out HB3.out).mono ?_; rintro r w6 ⟨rfl, hb1, hb3, hC⟩; have K1 := Lib.hid hb1; have K2 := Lib.hid (HB2.out.keep hC (dbl_ne2 N1.out N3.out)); have K3 := Lib.hid hb3; have HC := Lib.hid (HC1.out.trans (hC.mono dbl_s2)); clear hb1 hb3 hC)
  go_ret
  exact ⟨rfl, K1.out, K2.out, K3.out, HC.out⟩

set_option maxHeartbeats 4000000 in
set_option maxRecDepth 100000 in
theorem dbl1 (a c m : Nat) (b1 b2 b3 : Int) (x z u v : Option Addr) (e1 e2 e3 : Value) (w : World) (n1 : a ≠ c) (n2 : a ≠ m) (n3 : c ≠ m) (h1 : Blk w a (nc b1 (at0 c) x e1)) (h2 : Blk w c (nc b2 z (at0 m) e2)) (h3 : Blk w m (nc b3 u v e3)) :
    Calls Try.prog 45 #[.pointer (some ⟨a, 0, none⟩), .int .i64 1] w fun r w' => r = .returned (.pointer (some ⟨m, 0, none⟩)) ∧ Blk w' a (nc b1 v x e1) ∧ Blk w' c (nc b2 z u e2) ∧ Blk w' m (nc b3 (at0 c) (at0 a) e3) ∧ Ch (S3 a c m) w w' := by
  have c1 := h1.cell 1
  simp only [nc, at0, List.getElem?_toArray, List.getElem?_cons_zero, List.getElem?_cons_succ] at c1
  have H1 := Lib.hid h1
  have H2 := Lib.hid h2
  have H3 := Lib.hid h3
  have N1 := Lib.hid n1
  have N2 := Lib.hid n2
  have N3 := Lib.hid n3
  clear h1 h2 h3 n1 n2 n3
  go_enter Try.func45, Try.ntmps45
  go_wp2_with (go_at_call 43; refine (opp1 _).mono ?_; rintro r w4 ⟨rfl, rfl⟩)
  go_region_law (go_simp; go_at_call 42; (with_reducible refine (rot0 c m b2 b3 z u v e2 e3 _ N3.out H2.out.drew H3.out.drew).mono ?_); rintro r w5 ⟨rfl, hb2, hb3, hC⟩; have hb1 := H1.out.drew.keep hC (dbl_ne N1.out N2.out); have c4 := hb1.cell 1; have f4 := hb1.free 1; have HB1 := Lib.hid (hb1.set 1 (.pointer (some ⟨m, 0, none⟩))); have HB2 := Lib.hid (hb2.setOther (p := ⟨a, 1, none⟩) N1.out (.pointer (some ⟨m, 0, none⟩))); have HB3 := Lib.hid (hb3.setOther (p := ⟨a, 1, none⟩) N2.out (.pointer (some ⟨m, 0, none⟩))); have HC := Lib.hid hC; simp only [nc, at0, List.getElem?_toArray, List.getElem?_cons_zero, List.getElem?_cons_succ] at c4; clear hb1 hb2 hb3 hC)
  go_step
  have HC1 : Hid (Ch (S3 a c m) w4 (w5.setCell ⟨a, 1, none⟩ (.pointer (some ⟨m, 0, none⟩)))) := Lib.hid ((((Ch.refl (S3 a c m) w4).drew.trans (HC.out.mono dbl_s))).setCell ⟨a, 1, none⟩ (fun _ => Or.inl rfl) _)
  clear HC
  go_wp2_with (go_at_call 42; refine (rot1 a m b1 b3 x v (at0 c) e1 e3 _ N2.out HB1.out HB3.out).mono ?_; rintro r w6 ⟨rfl, hb1, hb3, hC⟩; have K1 := Lib.hid hb1; have K2 := Lib.hid (HB2.out.keep hC (dbl_ne2 N1.out N3.out)); have K3 := Lib.hid hb3; have HC := Lib.hid (HC1.out.trans (hC.mono dbl_s2)); clear hb1 hb3 hC)
  go_ret
  exact ⟨rfl, K1.out, K2.out, K3.out, HC.out⟩
end Go.Proofs.Ytlppnbmaedgodaa
