/- WALKS: the steps that only look. (Printed by mkH3.py.) -/
import Derived.Test.YtpkeiankocimaaaDoorG
namespace Go.Proofs.YtpkeiankocimaaaDoor
open Go.RowKit
set_option linter.unusedVariables false
set_option linter.unusedSimpArgs false

set_option maxHeartbeats 8000000 in
set_option maxRecDepth 100000 in
theorem step_len (base q n cap g mb : Nat) (dup : Bool) (a : List El) (m : Int) (A : Option Addr) (len cp : Nat) (its : List El) (w : World) (h : QS w base q n cap g mb dup a) (hb : base ≤ w.heap.size) :
    Calls Tryd.prog 15 #[.pointer (some ⟨q, 0, none⟩), stepV ⟨4, m, A, len, cp, its⟩] w fun r w' => StepX w base q g mb dup a ⟨4, m, A, len, cp, its⟩ r w' := by
  have hgl : g < w.heap.size := (own_lt h.qm.row g rfl).2
  have hql := h.qm.blk.lt
  have hml : mb < w.heap.size := by
    obtain ⟨f, nn, hm, _⟩ := h.map
    exact hm.lt
  obtain ⟨W1, hW1⟩ : ∃ W1, W1 = (w.alloc (.cells #[.int .i64 4, .int .i64 m, .slice A len cp] 32)).alloc (.cells #[.slice none 0 0, .int .i64 0, .bool false, .int .i64 0] 36) := ⟨_, rfl⟩
  have hC1 : Ch S0 w W1 := by rw [hW1]; exact ((Ch.refl _ _).alloc _).alloc _
  have hs1 : W1.heap.size = w.heap.size + 1 + 1 := by rw [hW1, World.size_alloc, World.size_alloc]
  have hB1 : Blk W1 (w.heap.size + 1) #[.slice none 0 0, .int .i64 0, .bool false, .int .i64 0] := by
    have := Blk.new (w.alloc (.cells #[.int .i64 4, .int .i64 m, .slice A len cp] 32)) #[.slice none 0 0, .int .i64 0, .bool false, .int .i64 0] 36
    rw [World.size_alloc] at this
    rw [hW1]
    exact this
  have hQ1 := h.keep hC1 (fun h => h) (fun h => h) (fun h => h)
  have z0 := hB1.cell 0
  have z1 := hB1.cell 1
  have z2 := hB1.cell 2
  have z3 := hB1.cell 3
  have y0 := hB1.free 0
  have y1 := hB1.free 1
  have y2 := hB1.free 2
  have y3 := hB1.free 3
  simp only [List.getElem?_toArray, List.getElem?_cons_zero, List.getElem?_cons_succ] at z0 z1 z2 z3
  have hl5 := hB1.lt
  have HQ1 := Lib.hid hQ1
  have HW1 := Lib.hid hW1
  have HC1 := Lib.hid hC1
  have HB1 := Lib.hid hB1
  have HS1 := Lib.hid hs1
  have HAl := Lib.hid h.qm.len
  clear h hW1 hC1 hB1 hQ1 hs1
  unfold stepV
  go_enter Tryd.func15, Tryd.ntmps15
  go_upto_region 25 with fail
  rw [← HW1.out]
  go_wp2_with fail
  refine (len_any base q n cap g mb dup a _ HQ1.out).mono ?_
  rintro r w2 ⟨rfl, e2⟩
  rw [e2]
  clear e2
  go_wp2_with fail
  refine bodyPost_ret (v := .agg #[.slice none 0 0, .int .i64 (a.length : Nat), .bool false, .int .i64 0]) (by simp [results, Tryd.results15, go_sem, z0, z1, z2, z3, hl5]) rfl ?_
  exact step_end (z := w.heap.size + 1) (d := ⟨none, 0, 0, [], a.length, false⟩) (by omega) hl5 (HC1.out.mono (fun _ _ h => h.elim)) HQ1.out (Or.inl rfl) (by omega) hql hml (ch4 _ _ _ _ _ _) rfl (Rd.nil _ _) (fun b o e => by cases e) (does4 rfl ⟨rfl, rfl, rfl⟩)

set_option maxHeartbeats 8000000 in
set_option maxRecDepth 100000 in
theorem step_empty (base q n cap g mb : Nat) (dup : Bool) (a : List El) (m : Int) (A : Option Addr) (len cp : Nat) (its : List El) (w : World) (h : QS w base q n cap g mb dup a) (hb : base ≤ w.heap.size) :
    Calls Tryd.prog 15 #[.pointer (some ⟨q, 0, none⟩), stepV ⟨5, m, A, len, cp, its⟩] w fun r w' => StepX w base q g mb dup a ⟨5, m, A, len, cp, its⟩ r w' := by
  have hgl : g < w.heap.size := (own_lt h.qm.row g rfl).2
  have hql := h.qm.blk.lt
  have hml : mb < w.heap.size := by
    obtain ⟨f, nn, hm, _⟩ := h.map
    exact hm.lt
  obtain ⟨W1, hW1⟩ : ∃ W1, W1 = (w.alloc (.cells #[.int .i64 5, .int .i64 m, .slice A len cp] 32)).alloc (.cells #[.slice none 0 0, .int .i64 0, .bool false, .int .i64 0] 36) := ⟨_, rfl⟩
  have hC1 : Ch S0 w W1 := by rw [hW1]; exact ((Ch.refl _ _).alloc _).alloc _
  have hs1 : W1.heap.size = w.heap.size + 1 + 1 := by rw [hW1, World.size_alloc, World.size_alloc]
  have hB1 : Blk W1 (w.heap.size + 1) #[.slice none 0 0, .int .i64 0, .bool false, .int .i64 0] := by
    have := Blk.new (w.alloc (.cells #[.int .i64 5, .int .i64 m, .slice A len cp] 32)) #[.slice none 0 0, .int .i64 0, .bool false, .int .i64 0] 36
    rw [World.size_alloc] at this
    rw [hW1]
    exact this
  have hQ1 := h.keep hC1 (fun h => h) (fun h => h) (fun h => h)
  have z0 := hB1.cell 0
  have z1 := hB1.cell 1
  have z2 := hB1.cell 2
  have z3 := hB1.cell 3
  have y0 := hB1.free 0
  have y1 := hB1.free 1
  have y2 := hB1.free 2
  have y3 := hB1.free 3
  simp only [List.getElem?_toArray, List.getElem?_cons_zero, List.getElem?_cons_succ] at z0 z1 z2 z3
  have hl5 := hB1.lt
  have HQ1 := Lib.hid hQ1
  have HW1 := Lib.hid hW1
  have HC1 := Lib.hid hC1
  have HB1 := Lib.hid hB1
  have HS1 := Lib.hid hs1
  have HAl := Lib.hid h.qm.len
  clear h hW1 hC1 hB1 hQ1 hs1
  unfold stepV
  go_enter Tryd.func15, Tryd.ntmps15
  go_upto_region 27 with fail
  rw [← HW1.out]
  go_wp2_with fail
  refine (empty_any base q n cap g mb dup a _ HQ1.out).mono ?_
  rintro r w2 ⟨rfl, e2⟩
  rw [e2]
  clear e2
  go_wp2_with fail
  refine bodyPost_ret (v := .agg #[.slice none 0 0, .int .i64 0, .bool (decide (a.length = 0)), .int .i64 0]) (by simp [results, Tryd.results15, go_sem, z0, z1, z2, z3, hl5]) rfl ?_
  exact step_end (z := w.heap.size + 1) (d := ⟨none, 0, 0, [], 0, decide (a.length = 0)⟩) (by omega) hl5 (HC1.out.mono (fun _ _ h => h.elim)) HQ1.out (Or.inl rfl) (by omega) hql hml (ch4 _ _ _ _ _ _) rfl (Rd.nil _ _) (fun b o e => by cases e) (does5 rfl ⟨rfl, rfl, rfl⟩)

set_option maxHeartbeats 8000000 in
set_option maxRecDepth 100000 in
theorem step_disposed (base q n cap g mb : Nat) (dup : Bool) (a : List El) (m : Int) (A : Option Addr) (len cp : Nat) (its : List El) (w : World) (h : QS w base q n cap g mb dup a) (hb : base ≤ w.heap.size) :
    Calls Tryd.prog 15 #[.pointer (some ⟨q, 0, none⟩), stepV ⟨7, m, A, len, cp, its⟩] w fun r w' => StepX w base q g mb dup a ⟨7, m, A, len, cp, its⟩ r w' := by
  have hgl : g < w.heap.size := (own_lt h.qm.row g rfl).2
  have hql := h.qm.blk.lt
  have hml : mb < w.heap.size := by
    obtain ⟨f, nn, hm, _⟩ := h.map
    exact hm.lt
  obtain ⟨W1, hW1⟩ : ∃ W1, W1 = (w.alloc (.cells #[.int .i64 7, .int .i64 m, .slice A len cp] 32)).alloc (.cells #[.slice none 0 0, .int .i64 0, .bool false, .int .i64 0] 36) := ⟨_, rfl⟩
  have hC1 : Ch S0 w W1 := by rw [hW1]; exact ((Ch.refl _ _).alloc _).alloc _
  have hs1 : W1.heap.size = w.heap.size + 1 + 1 := by rw [hW1, World.size_alloc, World.size_alloc]
  have hB1 : Blk W1 (w.heap.size + 1) #[.slice none 0 0, .int .i64 0, .bool false, .int .i64 0] := by
    have := Blk.new (w.alloc (.cells #[.int .i64 7, .int .i64 m, .slice A len cp] 32)) #[.slice none 0 0, .int .i64 0, .bool false, .int .i64 0] 36
    rw [World.size_alloc] at this
    rw [hW1]
    exact this
  have hQ1 := h.keep hC1 (fun h => h) (fun h => h) (fun h => h)
  have z0 := hB1.cell 0
  have z1 := hB1.cell 1
  have z2 := hB1.cell 2
  have z3 := hB1.cell 3
  have y0 := hB1.free 0
  have y1 := hB1.free 1
  have y2 := hB1.free 2
  have y3 := hB1.free 3
  simp only [List.getElem?_toArray, List.getElem?_cons_zero, List.getElem?_cons_succ] at z0 z1 z2 z3
  have hl5 := hB1.lt
  have HQ1 := Lib.hid hQ1
  have HW1 := Lib.hid hW1
  have HC1 := Lib.hid hC1
  have HB1 := Lib.hid hB1
  have HS1 := Lib.hid hs1
  have HAl := Lib.hid h.qm.len
  clear h hW1 hC1 hB1 hQ1 hs1
  unfold stepV
  go_enter Tryd.func15, Tryd.ntmps15
  go_upto_region 31 with fail
  rw [← HW1.out]
  go_wp2_with fail
  refine (disposed_any base q n cap g mb dup a _ HQ1.out).mono ?_
  rintro r w2 ⟨rfl, e2⟩
  rw [e2]
  clear e2
  go_wp2_with fail
  refine bodyPost_ret (v := .agg #[.slice none 0 0, .int .i64 0, .bool false, .int .i64 0]) (by simp [results, Tryd.results15, go_sem, z0, z1, z2, z3, hl5]) rfl ?_
  exact step_end (z := w.heap.size + 1) (d := ⟨none, 0, 0, [], 0, false⟩) (by omega) hl5 (HC1.out.mono (fun _ _ h => h.elim)) HQ1.out (Or.inl rfl) (by omega) hql hml (ch4 _ _ _ _ _ _) rfl (Rd.nil _ _) (fun b o e => by cases e) (does7 rfl ⟨rfl, rfl, rfl⟩)

set_option maxHeartbeats 8000000 in
set_option maxRecDepth 100000 in
theorem step_peek (base q n cap g mb : Nat) (dup : Bool) (a : List El) (m : Int) (A : Option Addr) (len cp : Nat) (its : List El) (w : World) (h : QS w base q n cap g mb dup a) (hb : base ≤ w.heap.size) (h0 : 0 < a.length) :
    Calls Tryd.prog 15 #[.pointer (some ⟨q, 0, none⟩), stepV ⟨3, m, A, len, cp, its⟩] w fun r w' => StepX w base q g mb dup a ⟨3, m, A, len, cp, its⟩ r w' := by
  have hgl : g < w.heap.size := (own_lt h.qm.row g rfl).2
  have hql := h.qm.blk.lt
  have hml : mb < w.heap.size := by
    obtain ⟨f, nn, hm, _⟩ := h.map
    exact hm.lt
  obtain ⟨W1, hW1⟩ : ∃ W1, W1 = (w.alloc (.cells #[.int .i64 3, .int .i64 m, .slice A len cp] 32)).alloc (.cells #[.slice none 0 0, .int .i64 0, .bool false, .int .i64 0] 36) := ⟨_, rfl⟩
  have hC1 : Ch S0 w W1 := by rw [hW1]; exact ((Ch.refl _ _).alloc _).alloc _
  have hs1 : W1.heap.size = w.heap.size + 1 + 1 := by rw [hW1, World.size_alloc, World.size_alloc]
  have hB1 : Blk W1 (w.heap.size + 1) #[.slice none 0 0, .int .i64 0, .bool false, .int .i64 0] := by
    have := Blk.new (w.alloc (.cells #[.int .i64 3, .int .i64 m, .slice A len cp] 32)) #[.slice none 0 0, .int .i64 0, .bool false, .int .i64 0] 36
    rw [World.size_alloc] at this
    rw [hW1]
    exact this
  have hQ1 := h.keep hC1 (fun h => h) (fun h => h) (fun h => h)
  have z0 := hB1.cell 0
  have z1 := hB1.cell 1
  have z2 := hB1.cell 2
  have z3 := hB1.cell 3
  have y0 := hB1.free 0
  have y1 := hB1.free 1
  have y2 := hB1.free 2
  have y3 := hB1.free 3
  simp only [List.getElem?_toArray, List.getElem?_cons_zero, List.getElem?_cons_succ] at z0 z1 z2 z3
  have hl5 := hB1.lt
  have HQ1 := Lib.hid hQ1
  have HW1 := Lib.hid hW1
  have HC1 := Lib.hid hC1
  have HB1 := Lib.hid hB1
  have HS1 := Lib.hid hs1
  have HAl := Lib.hid h.qm.len
  clear h hW1 hC1 hB1 hQ1 hs1
  unfold stepV
  go_enter Tryd.func15, Tryd.ntmps15
  go_upto_region 21 with fail
  rw [← HW1.out]
  go_wp2_with fail
  refine (peek_any base q n cap g mb dup a _ HQ1.out (by have := HAl.out; omega)).mono ?_
  rintro r w2 ⟨⟨x, rfl, hx⟩, e2⟩
  rw [e2]
  clear e2
  have HX := Lib.hid hx
  clear hx
  obtain ⟨x1, x2⟩ := x
  have hkV : kV (x1, x2) = .iface 54 (.agg #[.int .i64 x1, .int .i64 x2]) := rfl
  rw [hkV]
  have hty : ∀ w, (Instr.typeAssert (.iface 54 (.agg #[.int .i64 x1, .int .i64 x2])) 63 54 true).run Tryd.prog w = .ok (.tuple #[.agg #[.int .i64 x1, .int .i64 x2], .bool true]) w := fun _ => by kernel_rfl
  clear hkV
  obtain ⟨W3, hW3⟩ : ∃ W3, W3 = (W1.alloc (.cells #[.int .i64 x1, .int .i64 x2] 54)).alloc (.cells #[.int .i64 x1, .int .i64 x2] 38) := ⟨_, rfl⟩
  have hB3 : Blk W3 (w.heap.size + 1) #[.slice none 0 0, .int .i64 0, .bool false, .int .i64 0] := by rw [hW3]; exact (HB1.out.alloc _).alloc _
  have hQ3 : QS W3 base q n cap g mb dup a := by rw [hW3]; exact HQ1.out.keep (((Ch.refl S0 W1).alloc _).alloc _) (fun h => h) (fun h => h) (fun h => h)
  have hC3 : Ch S0 w W3 := by rw [hW3]; exact (HC1.out.alloc _).alloc _
  have hR3 : Rd W3 (some ⟨W1.heap.size + 1, 0, none⟩) (pv [(x1, x2)]) := by
    rw [hW3]
    have := Rd.new (W1.alloc (.cells #[.int .i64 x1, .int .i64 x2] 54)) (pv [(x1, x2)]) 38
    rw [World.size_alloc] at this
    exact this
  have HQ3 := Lib.hid hQ3
  have HC3 := Lib.hid hC3
  have HR3 := Lib.hid hR3
  have HW3 := Lib.hid hW3
  have z0 := hB3.cell 0
  have z1 := hB3.cell 1
  have z2 := hB3.cell 2
  have z3 := hB3.cell 3
  have y0 := hB3.free 0
  have y1 := hB3.free 1
  have y2 := hB3.free 2
  have y3 := hB3.free 3
  simp only [List.getElem?_toArray, List.getElem?_cons_zero, List.getElem?_cons_succ] at z0 z1 z2 z3
  have hl6 := hB3.lt
  have HS3 : Hid (W1.heap.size + 1 < W3.heap.size) := Lib.hid (by rw [hW3, World.size_alloc, World.size_alloc]; omega)
  clear hQ3 hC3 hR3 hB3
  rw [hW3] at y0 y1 y2 y3 z0 z1 z2 z3
  clear hW3
  go_wp2_with fail
  rw [← HW3.out]
  rw [← HW3.out] at z0 z1 z2 z3
  refine bodyPost_ret (v := .agg #[.slice (some ⟨W1.heap.size + 1, 0, none⟩) 1 1, .int .i64 0, .bool false, .int .i64 0]) (by simp [results, Tryd.results15, go_sem, z0, z1, z2, z3, hl6]) rfl ?_
  refine step_end (z := w.heap.size + 1) (d := ⟨some ⟨W1.heap.size + 1, 0, none⟩, 1, 1, [(x1, x2)], 0, false⟩) (by omega) hl6 (HC3.out.mono (fun _ _ h => h.elim)) HQ3.out (Or.inl rfl) (by omega) hql hml (ch4 _ _ _ _ _ _) rfl (HR3.out.keep (ch4 _ _ _ _ _ _) (fun b o e h => by cases e; have h : W1.heap.size + 1 = w.heap.size + 1 := h; omega)) (fun b o e => ?_) (does3 rfl ⟨rfl, ⟨_, rfl, HX.out⟩⟩)
  cases e
  refine ⟨by omega, HS3.out, fun h => ?_⟩
  rcases h with h | h | h <;> omega
end Go.Proofs.YtpkeiankocimaaaDoor
