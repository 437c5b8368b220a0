/- WALKS: a node that hangs too low on one side is turned about. -/
import Derived.Test.YtlppnbmaedgodaaB
namespace Go.Proofs.Ytlppnbmaedgodaa
open Go.RowKit
set_option linter.unusedVariables false
set_option linter.unusedSimpArgs false

set_option maxHeartbeats 4000000 in
set_option maxRecDepth 100000 in
theorem sgl1 (a c : Nat) (b1 : Int) (x y z : Option Addr) (e1 e2 : Value) (w : World) (n1 : a ≠ c) (h1 : Blk w a (nc b1 x (at0 c) e1)) (h2 : Blk w c (nc 1 y z e2)) :
    Calls Try.prog 37 #[.pointer (some ⟨a, 0, none⟩), .int .i64 1] w fun r w' => r = .returned (.pointer (some ⟨c, 0, none⟩)) ∧ Blk w' a (nc 0 x y e1) ∧ Blk w' c (nc 0 (at0 a) z e2) ∧ Ch (S2 a c) w w' := by
  have c1 := h1.cell 2
  have c2 := h2.cell 0
  have f1 := h1.free 0
  have c0 := h1.cell 0
  have g1 := h1.set 0 (.int .i8 0)
  have g2 := h2.setOther (p := ⟨a, 0, none⟩) n1 (.int .i8 0)
  have f2 := g2.free 0
  have d2 := g2.cell 0
  have K1 := Lib.hid (show Blk _ a (nc 0 x (at0 c) e1) from g1.setOther (p := ⟨c, 0, none⟩) (Ne.symm n1) (.int .i8 0))
  have K2 := Lib.hid (show Blk _ c (nc 0 y z e2) from g2.set 0 (.int .i8 0))
  have HC : Hid (Ch (S2 a c) w ((w.setCell ⟨a, 0, none⟩ (.int .i8 0)).setCell ⟨c, 0, none⟩ (.int .i8 0))) := Lib.hid (((Ch.refl (S2 a c) w).setCell ⟨a, 0, none⟩ (fun _ => Or.inl rfl) _).setCell ⟨c, 0, none⟩ (fun _ => Or.inr rfl) _)
  have N1 := Lib.hid n1
  simp only [nc, at0, List.getElem?_toArray, List.getElem?_cons_zero, List.getElem?_cons_succ] at c0 c1 c2 d2
  clear h1 h2 g1 g2 n1
  go_enter Try.func37, Try.ntmps37
  go_wp2_with (first | (go_at_call 43; refine (opp1 _).mono ?_; rintro r w4 ⟨rfl, e⟩; rw [e]; clear e) | (go_at_call 42; refine (rot0 a c 0 0 x y z e1 e2 _ N1.out K1.out K2.out).mono ?_; rintro r w6 ⟨rfl, hb1, hb2, hC⟩; have J1 := Lib.hid hb1; have J2 := Lib.hid hb2; have JC := Lib.hid (HC.out.trans hC); clear hb1 hb2 hC))
  go_ret
  exact ⟨rfl, J1.out, J2.out, JC.out⟩

set_option maxHeartbeats 4000000 in
set_option maxRecDepth 100000 in
theorem dbb1n (a c m : Nat) (b1 : Int) (x z u v : Option Addr) (e1 e2 e3 : Value) (w : World) (n1 : a ≠ c) (n2 : a ≠ m) (n3 : c ≠ m) (h1 : Blk w a (nc b1 x (at0 c) e1)) (h2 : Blk w c (nc (-1) (at0 m) z e2)) (h3 : Blk w m (nc (-1) u v e3)) :
    Calls Try.prog 37 #[.pointer (some ⟨a, 0, none⟩), .int .i64 1] w fun r w' => r = .returned (.pointer (some ⟨m, 0, none⟩)) ∧ Blk w' a (nc 0 x u e1) ∧ Blk w' c (nc 1 v z e2) ∧ Blk w' m (nc 0 (at0 a) (at0 c) e3) ∧ Ch (S3 a c m) w w' := by
  have c1 := h1.cell 2
  have c2 := h2.cell 0
  have H1 := Lib.hid h1
  have H2 := Lib.hid h2
  have H3 := Lib.hid h3
  have N1 := Lib.hid n1
  have N2 := Lib.hid n2
  have N3 := Lib.hid n3
  simp only [nc, at0, List.getElem?_toArray, List.getElem?_cons_zero, List.getElem?_cons_succ] at c1 c2
  clear h1 h2 h3 n1 n2 n3
  go_enter Try.func37, Try.ntmps37
  go_wp2_with (first | (go_at_call 43; refine (opp1 _).mono ?_; rintro r w4 ⟨rfl, e⟩; rw [e]; clear e) | (go_at_call 44; refine (adj1n a c m b1 (-1) x z u v e1 e2 e3 _ N1.out N2.out N3.out H1.out H2.out H3.out).mono ?_; rintro r w5 ⟨rfl, hb1, hb2, hb3, hC⟩; have I1 := Lib.hid hb1; have I2 := Lib.hid hb2; have I3 := Lib.hid hb3; have HC := Lib.hid hC; clear hb1 hb2 hb3 hC) | (go_at_call 45; refine (dbl0 a c m 0 1 0 x z u v e1 e2 e3 _ N1.out N2.out N3.out I1.out I2.out I3.out).mono ?_; rintro r w6 ⟨rfl, hb1, hb2, hb3, hC⟩; have J1 := Lib.hid hb1; have J2 := Lib.hid hb2; have J3 := Lib.hid hb3; have JC := Lib.hid (HC.out.trans hC); clear hb1 hb2 hb3 hC))
  go_ret
  exact ⟨rfl, J1.out, J2.out, J3.out, JC.out⟩

set_option maxHeartbeats 4000000 in
set_option maxRecDepth 100000 in
theorem dbb1z (a c m : Nat) (b1 : Int) (x z u v : Option Addr) (e1 e2 e3 : Value) (w : World) (n1 : a ≠ c) (n2 : a ≠ m) (n3 : c ≠ m) (h1 : Blk w a (nc b1 x (at0 c) e1)) (h2 : Blk w c (nc (-1) (at0 m) z e2)) (h3 : Blk w m (nc 0 u v e3)) :
    Calls Try.prog 37 #[.pointer (some ⟨a, 0, none⟩), .int .i64 1] w fun r w' => r = .returned (.pointer (some ⟨m, 0, none⟩)) ∧ Blk w' a (nc 0 x u e1) ∧ Blk w' c (nc 0 v z e2) ∧ Blk w' m (nc 0 (at0 a) (at0 c) e3) ∧ Ch (S3 a c m) w w' := by
  have c1 := h1.cell 2
  have c2 := h2.cell 0
  have H1 := Lib.hid h1
  have H2 := Lib.hid h2
  have H3 := Lib.hid h3
  have N1 := Lib.hid n1
  have N2 := Lib.hid n2
  have N3 := Lib.hid n3
  simp only [nc, at0, List.getElem?_toArray, List.getElem?_cons_zero, List.getElem?_cons_succ] at c1 c2
  clear h1 h2 h3 n1 n2 n3
  go_enter Try.func37, Try.ntmps37
  go_wp2_with (first | (go_at_call 43; refine (opp1 _).mono ?_; rintro r w4 ⟨rfl, e⟩; rw [e]; clear e) | (go_at_call 44; refine (adj1z a c m b1 (-1) x z u v e1 e2 e3 _ N1.out N2.out N3.out H1.out H2.out H3.out).mono ?_; rintro r w5 ⟨rfl, hb1, hb2, hb3, hC⟩; have I1 := Lib.hid hb1; have I2 := Lib.hid hb2; have I3 := Lib.hid hb3; have HC := Lib.hid hC; clear hb1 hb2 hb3 hC) | (go_at_call 45; refine (dbl0 a c m 0 0 0 x z u v e1 e2 e3 _ N1.out N2.out N3.out I1.out I2.out I3.out).mono ?_; rintro r w6 ⟨rfl, hb1, hb2, hb3, hC⟩; have J1 := Lib.hid hb1; have J2 := Lib.hid hb2; have J3 := Lib.hid hb3; have JC := Lib.hid (HC.out.trans hC); clear hb1 hb2 hb3 hC))
  go_ret
  exact ⟨rfl, J1.out, J2.out, J3.out, JC.out⟩

set_option maxHeartbeats 4000000 in
set_option maxRecDepth 100000 in
theorem dbb1p (a c m : Nat) (b1 : Int) (x z u v : Option Addr) (e1 e2 e3 : Value) (w : World) (n1 : a ≠ c) (n2 : a ≠ m) (n3 : c ≠ m) (h1 : Blk w a (nc b1 x (at0 c) e1)) (h2 : Blk w c (nc (-1) (at0 m) z e2)) (h3 : Blk w m (nc 1 u v e3)) :
    Calls Try.prog 37 #[.pointer (some ⟨a, 0, none⟩), .int .i64 1] w fun r w' => r = .returned (.pointer (some ⟨m, 0, none⟩)) ∧ Blk w' a (nc (-1) x u e1) ∧ Blk w' c (nc 0 v z e2) ∧ Blk w' m (nc 0 (at0 a) (at0 c) e3) ∧ Ch (S3 a c m) w w' := by
  have c1 := h1.cell 2
  have c2 := h2.cell 0
  have H1 := Lib.hid h1
  have H2 := Lib.hid h2
  have H3 := Lib.hid h3
  have N1 := Lib.hid n1
  have N2 := Lib.hid n2
  have N3 := Lib.hid n3
  simp only [nc, at0, List.getElem?_toArray, List.getElem?_cons_zero, List.getElem?_cons_succ] at c1 c2
  clear h1 h2 h3 n1 n2 n3
  go_enter Try.func37, Try.ntmps37
  go_wp2_with (first | (go_at_call 43; refine (opp1 _).mono ?_; rintro r w4 ⟨rfl, e⟩; rw [e]; clear e) | (go_at_call 44; refine (adj1p a c m b1 (-1) x z u v e1 e2 e3 _ N1.out N2.out N3.out H1.out H2.out H3.out).mono ?_; rintro r w5 ⟨rfl, hb1, hb2, hb3, hC⟩; have I1 := Lib.hid hb1; have I2 := Lib.hid hb2; have I3 := Lib.hid hb3; have HC := Lib.hid hC; clear hb1 hb2 hb3 hC) | (go_at_call 45; refine (dbl0 a c m (-1) 0 0 x z u v e1 e2 e3 _ N1.out N2.out N3.out I1.out I2.out I3.out).mono ?_; rintro r w6 ⟨rfl, hb1, hb2, hb3, hC⟩; have J1 := Lib.hid hb1; have J2 := Lib.hid hb2; have J3 := Lib.hid hb3; have JC := Lib.hid (HC.out.trans hC); clear hb1 hb2 hb3 hC))
  go_ret
  exact ⟨rfl, J1.out, J2.out, J3.out, JC.out⟩

set_option maxHeartbeats 4000000 in
set_option maxRecDepth 100000 in
theorem sgl0 (a c : Nat) (b1 : Int) (x y z : Option Addr) (e1 e2 : Value) (w : World) (n1 : a ≠ c) (h1 : Blk w a (nc b1 (at0 c) x e1)) (h2 : Blk w c (nc (-1) z y e2)) :
    Calls Try.prog 37 #[.pointer (some ⟨a, 0, none⟩), .int .i64 0] w fun r w' => r = .returned (.pointer (some ⟨c, 0, none⟩)) ∧ Blk w' a (nc 0 y x e1) ∧ Blk w' c (nc 0 z (at0 a) e2) ∧ Ch (S2 a c) w w' := by
  have c1 := h1.cell 1
  have c2 := h2.cell 0
  have f1 := h1.free 0
  have c0 := h1.cell 0
  have g1 := h1.set 0 (.int .i8 0)
  have g2 := h2.setOther (p := ⟨a, 0, none⟩) n1 (.int .i8 0)
  have f2 := g2.free 0
  have d2 := g2.cell 0
  have K1 := Lib.hid (show Blk _ a (nc 0 (at0 c) x e1) from g1.setOther (p := ⟨c, 0, none⟩) (Ne.symm n1) (.int .i8 0))
  have K2 := Lib.hid (show Blk _ c (nc 0 z y e2) from g2.set 0 (.int .i8 0))
  have HC : Hid (Ch (S2 a c) w ((w.setCell ⟨a, 0, none⟩ (.int .i8 0)).setCell ⟨c, 0, none⟩ (.int .i8 0))) := Lib.hid (((Ch.refl (S2 a c) w).setCell ⟨a, 0, none⟩ (fun _ => Or.inl rfl) _).setCell ⟨c, 0, none⟩ (fun _ => Or.inr rfl) _)
  have N1 := Lib.hid n1
  simp only [nc, at0, List.getElem?_toArray, List.getElem?_cons_zero, List.getElem?_cons_succ] at c0 c1 c2 d2
  clear h1 h2 g1 g2 n1
  go_enter Try.func37, Try.ntmps37
  go_wp2_with (first | (go_at_call 43; refine (opp0 _).mono ?_; rintro r w4 ⟨rfl, e⟩; rw [e]; clear e) | (go_at_call 42; refine (rot1 a c 0 0 x y z e1 e2 _ N1.out K1.out K2.out).mono ?_; rintro r w6 ⟨rfl, hb1, hb2, hC⟩; have J1 := Lib.hid hb1; have J2 := Lib.hid hb2; have JC := Lib.hid (HC.out.trans hC); clear hb1 hb2 hC))
  go_ret
  exact ⟨rfl, J1.out, J2.out, JC.out⟩

set_option maxHeartbeats 4000000 in
set_option maxRecDepth 100000 in
theorem dbb0n (a c m : Nat) (b1 : Int) (x z u v : Option Addr) (e1 e2 e3 : Value) (w : World) (n1 : a ≠ c) (n2 : a ≠ m) (n3 : c ≠ m) (h1 : Blk w a (nc b1 (at0 c) x e1)) (h2 : Blk w c (nc 1 z (at0 m) e2)) (h3 : Blk w m (nc (-1) u v e3)) :
    Calls Try.prog 37 #[.pointer (some ⟨a, 0, none⟩), .int .i64 0] w fun r w' => r = .returned (.pointer (some ⟨m, 0, none⟩)) ∧ Blk w' a (nc 1 v x e1) ∧ Blk w' c (nc 0 z u e2) ∧ Blk w' m (nc 0 (at0 c) (at0 a) e3) ∧ Ch (S3 a c m) w w' := by
  have c1 := h1.cell 1
  have c2 := h2.cell 0
  have H1 := Lib.hid h1
  have H2 := Lib.hid h2
  have H3 := Lib.hid h3
  have N1 := Lib.hid n1
  have N2 := Lib.hid n2
  have N3 := Lib.hid n3
  simp only [nc, at0, List.getElem?_toArray, List.getElem?_cons_zero, List.getElem?_cons_succ] at c1 c2
  clear h1 h2 h3 n1 n2 n3
  go_enter Try.func37, Try.ntmps37
  go_wp2_with (first | (go_at_call 43; refine (opp0 _).mono ?_; rintro r w4 ⟨rfl, e⟩; rw [e]; clear e) | (go_at_call 44; refine (adj0n a c m b1 1 x z u v e1 e2 e3 _ N1.out N2.out N3.out H1.out H2.out H3.out).mono ?_; rintro r w5 ⟨rfl, hb1, hb2, hb3, hC⟩; have I1 := Lib.hid hb1; have I2 := Lib.hid hb2; have I3 := Lib.hid hb3; have HC := Lib.hid hC; clear hb1 hb2 hb3 hC) | (go_at_call 45; refine (dbl1 a c m 1 0 0 x z u v e1 e2 e3 _ N1.out N2.out N3.out I1.out I2.out I3.out).mono ?_; rintro r w6 ⟨rfl, hb1, hb2, hb3, hC⟩; have J1 := Lib.hid hb1; have J2 := Lib.hid hb2; have J3 := Lib.hid hb3; have JC := Lib.hid (HC.out.trans hC); clear hb1 hb2 hb3 hC))
  go_ret
  exact ⟨rfl, J1.out, J2.out, J3.out, JC.out⟩

set_option maxHeartbeats 4000000 in
set_option maxRecDepth 100000 in
theorem dbb0z (a c m : Nat) (b1 : Int) (x z u v : Option Addr) (e1 e2 e3 : Value) (w : World) (n1 : a ≠ c) (n2 : a ≠ m) (n3 : c ≠ m) (h1 : Blk w a (nc b1 (at0 c) x e1)) (h2 : Blk w c (nc 1 z (at0 m) e2)) (h3 : Blk w m (nc 0 u v e3)) :
    Calls Try.prog 37 #[.pointer (some ⟨a, 0, none⟩), .int .i64 0] w fun r w' => r = .returned (.pointer (some ⟨m, 0, none⟩)) ∧ Blk w' a (nc 0 v x e1) ∧ Blk w' c (nc 0 z u e2) ∧ Blk w' m (nc 0 (at0 c) (at0 a) e3) ∧ Ch (S3 a c m) w w' := by
  have c1 := h1.cell 1
  have c2 := h2.cell 0
  have H1 := Lib.hid h1
  have H2 := Lib.hid h2
  have H3 := Lib.hid h3
  have N1 := Lib.hid n1
  have N2 := Lib.hid n2
  have N3 := Lib.hid n3
  simp only [nc, at0, List.getElem?_toArray, List.getElem?_cons_zero, List.getElem?_cons_succ] at c1 c2
  clear h1 h2 h3 n1 n2 n3
  go_enter Try.func37, Try.ntmps37
  go_wp2_with (first | (go_at_call 43; refine (opp0 _).mono ?_; rintro r w4 ⟨rfl, e⟩; rw [e]; clear e) | (go_at_call 44; refine (adj0z a c m b1 1 x z u v e1 e2 e3 _ N1.out N2.out N3.out H1.out H2.out H3.out).mono ?_; rintro r w5 ⟨rfl, hb1, hb2, hb3, hC⟩; have I1 := Lib.hid hb1; have I2 := Lib.hid hb2; have I3 := Lib.hid hb3; have HC := Lib.hid hC; clear hb1 hb2 hb3 hC) | (go_at_call 45; refine (dbl1 a c m 0 0 0 x z u v e1 e2 e3 _ N1.out N2.out N3.out I1.out I2.out I3.out).mono ?_; rintro r w6 ⟨rfl, hb1, hb2, hb3, hC⟩; have J1 := Lib.hid hb1; have J2 := Lib.hid hb2; have J3 := Lib.hid hb3; have JC := Lib.hid (HC.out.trans hC); clear hb1 hb2 hb3 hC))
  go_ret
  exact ⟨rfl, J1.out, J2.out, J3.out, JC.out⟩

set_option maxHeartbeats 4000000 in
set_option maxRecDepth 100000 in
theorem dbb0p (a c m : Nat) (b1 : Int) (x z u v : Option Addr) (e1 e2 e3 : Value) (w : World) (n1 : a ≠ c) (n2 : a ≠ m) (n3 : c ≠ m) (h1 : Blk w a (nc b1 (at0 c) x e1)) (h2 : Blk w c (nc 1 z (at0 m) e2)) (h3 : Blk w m (nc 1 u v e3)) :
    Calls Try.prog 37 #[.pointer (some ⟨a, 0, none⟩), .int .i64 0] w fun r w' => r = .returned (.pointer (some ⟨m, 0, none⟩)) ∧ Blk w' a (nc 0 v x e1) ∧ Blk w' c (nc (-1) z u e2) ∧ Blk w' m (nc 0 (at0 c) (at0 a) e3) ∧ Ch (S3 a c m) w w' := by
  have c1 := h1.cell 1
  have c2 := h2.cell 0
  have H1 := Lib.hid h1
  have H2 := Lib.hid h2
  have H3 := Lib.hid h3
  have N1 := Lib.hid n1
  have N2 := Lib.hid n2
  have N3 := Lib.hid n3
  simp only [nc, at0, List.getElem?_toArray, List.getElem?_cons_zero, List.getElem?_cons_succ] at c1 c2
  clear h1 h2 h3 n1 n2 n3
  go_enter Try.func37, Try.ntmps37
  go_wp2_with (first | (go_at_call 43; refine (opp0 _).mono ?_; rintro r w4 ⟨rfl, e⟩; rw [e]; clear e) | (go_at_call 44; refine (adj0p a c m b1 1 x z u v e1 e2 e3 _ N1.out N2.out N3.out H1.out H2.out H3.out).mono ?_; rintro r w5 ⟨rfl, hb1, hb2, hb3, hC⟩; have I1 := Lib.hid hb1; have I2 := Lib.hid hb2; have I3 := Lib.hid hb3; have HC := Lib.hid hC; clear hb1 hb2 hb3 hC) | (go_at_call 45; refine (dbl1 a c m 0 (-1) 0 x z u v e1 e2 e3 _ N1.out N2.out N3.out I1.out I2.out I3.out).mono ?_; rintro r w6 ⟨rfl, hb1, hb2, hb3, hC⟩; have J1 := Lib.hid hb1; have J2 := Lib.hid hb2; have J3 := Lib.hid hb3; have JC := Lib.hid (HC.out.trans hC); clear hb1 hb2 hb3 hC))
  go_ret
  exact ⟨rfl, J1.out, J2.out, J3.out, JC.out⟩

/-- A tree that is kept while its own nodes are written, but for these three. -/
theorem Rep.keep3 {w w' : World} {a c m : Nat} {t : T} (h : Rep w t) (hc : Ch (S3 a c m) w w') (h1 : a ∉ t.bl) (h2 : c ∉ t.bl) (h3 : m ∉ t.bl) : Rep w' t :=
  h.keep hc (fun x hx e => by rcases e with rfl | rfl | rfl <;> contradiction)
theorem Rep.keep2 {w w' : World} {a c : Nat} {t : T} (h : Rep w t) (hc : Ch (S2 a c) w w') (h1 : a ∉ t.bl) (h2 : c ∉ t.bl) : Rep w' t :=
  h.keep hc (fun x hx e => by rcases e with rfl | rfl <;> contradiction)
/-- insertBalance in memory: the tree is turned about. -/
def InTree (t : T) : Nat → Prop := fun k => k ∈ t.bl
theorem nd_app {l m : List Nat} (h : (l ++ m).Nodup) {x : Nat} (h1 : x ∈ l) : x ∉ m := fun h2 => (List.nodup_append.1 h).2.2 x h1 x h2 rfl
theorem nd_app2 {l m : List Nat} (h : (l ++ m).Nodup) {x : Nat} (h1 : x ∈ m) : x ∉ l := fun h2 => (List.nodup_append.1 h).2.2 x h2 x h1 rfl

theorem insR_any {a : Nat} {b : Int} {l N : T} {k v : Int} (w : World) (h : Rep w (T.node a b l N k v)) (hd : (T.node a b l N k v).bl.Nodup) (hN : N.Avl) (h2 : N.ht - l.ht = 2) (hb : ∀ a l r k v, N ≠ .node a 0 l r k v) :
    Calls Try.prog 37 #[.pointer (some ⟨a, 0, none⟩), .int .i64 1] w fun r w' => r = .returned (.pointer (ad (rotR (T.node a b l N k v)).adr)) ∧ Rep w' (rotR (T.node a b l N k v)) ∧ Ch (wrR (T.node a b l N k v)) w w' := by
  rcases rotR_cases hN h2 hb with ⟨c, x, y, kc, vc, rfl⟩ | ⟨c, m, bm, u, q, km, vm, y, kc, vc, rfl, hm⟩
  · obtain ⟨g1, g2, g3, g4, g5⟩ := h
    simp only [T.bl, List.nodup_cons, List.mem_cons, List.mem_append, List.nodup_append, not_or] at hd
    obtain ⟨⟨d1, d2, d3, d4⟩, d5, ⟨⟨d6, d7⟩, d8, d9, d10⟩, d11⟩ := hd
    have dl : c ∉ l.bl := fun h => d11 c h c (Or.inl rfl) rfl
    refine (sgl1 a c b (ad l.adr) (ad x.adr) (ad y.adr) _ _ w d2 g1 g3).mono ?_
    rintro r w' ⟨rfl, k1, k2, hC⟩
    refine ⟨rfl, ⟨k2, ⟨k1, g2.keep2 hC d1 dl, g4.keep2 hC d3 d6⟩, g5.keep2 hC d4 d7⟩, hC.mono ?_⟩
    rintro z _ (rfl | rfl) <;> simp [wrR]
  · obtain ⟨g1, g2, g3, ⟨g4, g5, g6⟩, g7⟩ := h
    simp only [T.bl, List.cons_append, List.nodup_cons, List.mem_cons, List.mem_append, not_or] at hd
    obtain ⟨⟨d1, d2, d3, d4, d5⟩, hd⟩ := hd
    have hd0 := List.nodup_append.1 hd
    obtain ⟨e1, e2, e3⟩ := hd0
    simp only [List.nodup_cons, List.mem_cons, List.mem_append, not_or] at e2
    obtain ⟨⟨f1, f2, f3⟩, ⟨f4, f5⟩, f6⟩ := e2
    have lc : c ∉ l.bl := fun h => e3 c h c (by simp) rfl
    have lm : m ∉ l.bl := fun h => e3 m h m (by simp) rfl
    have H : ∀ (ra rc : Int), Calls Try.prog 37 #[.pointer (some ⟨a, 0, none⟩), .int .i64 1] w (fun r w' => r = .returned (.pointer (some ⟨m, 0, none⟩)) ∧ Blk w' a (nc ra (ad l.adr) (ad u.adr) (en k v)) ∧ Blk w' c (nc rc (ad q.adr) (ad y.adr) (en kc vc)) ∧ Blk w' m (nc 0 (at0 a) (at0 c) (en km vm)) ∧ Ch (S3 a c m) w w') → ra = (if bm = 1 then -1 else 0) → rc = (if bm = -1 then 1 else 0) → Calls Try.prog 37 #[.pointer (some ⟨a, 0, none⟩), .int .i64 1] w fun r w' => r = .returned (.pointer (ad (rotR (T.node a b l (.node c (-1) (.node m bm u q km vm) y kc vc) k v)).adr)) ∧ Rep w' (rotR (T.node a b l (.node c (-1) (.node m bm u q km vm) y kc vc) k v)) ∧ Ch (wrR (T.node a b l (.node c (-1) (.node m bm u q km vm) y kc vc) k v)) w w' := by
      intro ra rc hc era erc
      refine hc.mono ?_
      rintro r w' ⟨rfl, k1, k2, k3, hC⟩
      rw [era] at k1
      rw [erc] at k2
      refine ⟨rfl, ⟨k3, ⟨k1, g2.keep3 hC d1 lc lm, g5.keep3 hC d4.1 f2.1 f4.1⟩, ⟨k2, g6.keep3 hC d4.2 f2.2 f4.2, g7.keep3 hC d5 f3 f5⟩⟩, hC.mono ?_⟩
      rintro z _ (rfl | rfl | rfl) <;> simp [wrR]
    rcases hm with rfl | rfl | rfl
    · exact H 0 1 (dbb1n a c m b (ad l.adr) (ad y.adr) (ad u.adr) (ad q.adr) _ _ _ w d2 d3 f1 g1 g3 g4) rfl rfl
    · exact H 0 0 (dbb1z a c m b (ad l.adr) (ad y.adr) (ad u.adr) (ad q.adr) _ _ _ w d2 d3 f1 g1 g3 g4) rfl rfl
    · exact H (-1) 0 (dbb1p a c m b (ad l.adr) (ad y.adr) (ad u.adr) (ad q.adr) _ _ _ w d2 d3 f1 g1 g3 g4) rfl rfl

theorem insL_any {a : Nat} {b : Int} {l N : T} {k v : Int} (w : World) (h : Rep w (T.node a b N l k v)) (hd : (T.node a b N l k v).bl.Nodup) (hN : N.Avl) (h2 : N.ht - l.ht = 2) (hb : ∀ a l r k v, N ≠ .node a 0 l r k v) :
    Calls Try.prog 37 #[.pointer (some ⟨a, 0, none⟩), .int .i64 0] w fun r w' => r = .returned (.pointer (ad (rotL (T.node a b N l k v)).adr)) ∧ Rep w' (rotL (T.node a b N l k v)) ∧ Ch (wrL (T.node a b N l k v)) w w' := by
  rcases rotL_cases hN h2 hb with ⟨c, x, y, kc, vc, rfl⟩ | ⟨c, m, bm, u, q, km, vm, y, kc, vc, rfl, hm⟩
  · obtain ⟨g1, ⟨g3, g5, g4⟩, g2⟩ := h
    simp only [T.bl, List.cons_append, List.nodup_cons, List.mem_cons, List.mem_append, not_or] at hd
    obtain ⟨⟨d1, ⟨d2, d3⟩, d4⟩, ⟨⟨d5, d6⟩, d7⟩, d8⟩ := hd
    refine (sgl0 a c b (ad l.adr) (ad x.adr) (ad y.adr) _ _ w d1 g1 g3).mono ?_
    rintro r w' ⟨rfl, k1, k2, hC⟩
    refine ⟨rfl, ⟨k2, g5.keep2 hC d2 d5, ⟨k1, g4.keep2 hC d3 d6, g2.keep2 hC d4 d7⟩⟩, hC.mono ?_⟩
    rintro z _ (rfl | rfl) <;> simp [wrL]
  · obtain ⟨g1, ⟨g3, g7, ⟨g4, g6, g5⟩⟩, g2⟩ := h
    simp only [T.bl, List.cons_append, List.nodup_cons, List.mem_cons, List.mem_append, not_or] at hd
    obtain ⟨⟨d1, ⟨d2, d3, d4, d5⟩, d6⟩, ⟨⟨d7, d8, d9, d10⟩, d11⟩, hd⟩ := hd
    obtain ⟨e1, e2, e3⟩ := List.nodup_append.1 hd
    obtain ⟨e4, e5, e6⟩ := List.nodup_append.1 e1
    simp only [List.nodup_cons, List.mem_append, not_or] at e5
    obtain ⟨⟨f1, f2⟩, f3⟩ := e5
    have my : m ∉ y.bl := fun h => e6 m h m (by simp) rfl
    have lm : m ∉ l.bl := fun h => e3 m (by simp) m h rfl
    have H : ∀ (ra rc : Int), Calls Try.prog 37 #[.pointer (some ⟨a, 0, none⟩), .int .i64 0] w (fun r w' => r = .returned (.pointer (some ⟨m, 0, none⟩)) ∧ Blk w' a (nc ra (ad u.adr) (ad l.adr) (en k v)) ∧ Blk w' c (nc rc (ad y.adr) (ad q.adr) (en kc vc)) ∧ Blk w' m (nc 0 (at0 c) (at0 a) (en km vm)) ∧ Ch (S3 a c m) w w') → ra = (if bm = -1 then 1 else 0) → rc = (if bm = 1 then -1 else 0) → Calls Try.prog 37 #[.pointer (some ⟨a, 0, none⟩), .int .i64 0] w fun r w' => r = .returned (.pointer (ad (rotL (T.node a b (.node c 1 y (.node m bm q u km vm) kc vc) l k v)).adr)) ∧ Rep w' (rotL (T.node a b (.node c 1 y (.node m bm q u km vm) kc vc) l k v)) ∧ Ch (wrL (T.node a b (.node c 1 y (.node m bm q u km vm) kc vc) l k v)) w w' := by
      intro ra rc hc era erc
      refine hc.mono ?_
      rintro r w' ⟨rfl, k1, k2, k3, hC⟩
      rw [era] at k1
      rw [erc] at k2
      refine ⟨rfl, ⟨k3, ⟨k2, g7.keep3 hC d2 d7 my, g6.keep3 hC d4 d9 f1⟩, ⟨k1, g5.keep3 hC d5 d10 f2, g2.keep3 hC d6 d11 lm⟩⟩, hC.mono ?_⟩
      rintro z _ (rfl | rfl | rfl) <;> simp [wrL]
    rcases hm with rfl | rfl | rfl
    · exact H 1 0 (dbb0n a c m b (ad l.adr) (ad y.adr) (ad q.adr) (ad u.adr) _ _ _ w d1 d3 d8 g1 g3 g4) rfl rfl
    · exact H 0 0 (dbb0z a c m b (ad l.adr) (ad y.adr) (ad q.adr) (ad u.adr) _ _ _ w d1 d3 d8 g1 g3 g4) rfl rfl
    · exact H 0 (-1) (dbb0p a c m b (ad l.adr) (ad y.adr) (ad q.adr) (ad u.adr) _ _ _ w d1 d3 d8 g1 g3 g4) rfl rfl
end Go.Proofs.Ytlppnbmaedgodaa
