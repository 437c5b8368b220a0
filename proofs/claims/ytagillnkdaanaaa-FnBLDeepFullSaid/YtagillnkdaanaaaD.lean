/- WALKS: told; the places of a piece of data. -/
import Derived.Test.YtagillnkdaanaaaC
import Derived.Test.YtagillnkdaanaaaH6
namespace Go.Proofs.Ytagillnkdaanaaa
open Go.RowKit
set_option linter.unusedVariables false
set_option linter.unusedSimpArgs false

theorem fcap_any (fb : Nat) (x y z : Value) (w : World) (h : Blk w fb #[x, y, z]) (hx : ∃ k n, x = .int k n) : Calls Try.prog 26 #[.pointer (some ⟨fb, 0, none⟩)] w fun e w' => e = .returned x ∧ w' = w := by
  obtain ⟨k, n, rfl⟩ := hx
  have c0 := h.cell 0
  simp only [List.getElem?_toArray, List.getElem?_cons_zero, List.getElem?_cons_succ] at c0
  clear h
  go_enter Try.func26, Try.ntmps26
  go_wp2
  go_ret
  exact ⟨rfl, rfl⟩
theorem fk_any (fb : Nat) (x y z : Value) (w : World) (h : Blk w fb #[x, y, z]) (hx : ∃ k n, y = .int k n) : Calls Try.prog 27 #[.pointer (some ⟨fb, 0, none⟩)] w fun e w' => e = .returned y ∧ w' = w := by
  obtain ⟨k, n, rfl⟩ := hx
  have c0 := h.cell 1
  simp only [List.getElem?_toArray, List.getElem?_cons_zero, List.getElem?_cons_succ] at c0
  clear h
  go_enter Try.func27, Try.ntmps27
  go_wp2
  go_ret
  exact ⟨rfl, rfl⟩
theorem fb_any (fb : Nat) (x y z : Value) (w : World) (h : Blk w fb #[x, y, z]) (hx : ∃ k, z = .pointer k) : Calls Try.prog 28 #[.pointer (some ⟨fb, 0, none⟩)] w fun e w' => e = .returned z ∧ w' = w := by
  obtain ⟨k, rfl⟩ := hx
  have c0 := h.cell 2
  simp only [List.getElem?_toArray, List.getElem?_cons_zero, List.getElem?_cons_succ] at c0
  clear h
  go_enter Try.func28, Try.ntmps28
  go_wp2
  go_ret
  exact ⟨rfl, rfl⟩
theorem fw_any (b : Nat) (x : Value) (A : Option Addr) (n c : Nat) (w : World) (h : w.cell? ⟨b, 1, none⟩ = some (.slice A n c)) : Calls Try.prog 29 #[.pointer (some ⟨b, 0, none⟩)] w fun e w' => e = .returned (.slice A n c) ∧ w' = w := by
  go_enter Try.func29, Try.ntmps29
  go_wp2
  go_ret
  exact ⟨rfl, rfl⟩

set_option maxRecDepth 100000 in
set_option maxHeartbeats 2000000 in
theorem told_any (fb b sb M K n : Nat) (g : Nat → Bool) (w : World) (h : Fl w fb b sb M K n g) (hp : 0 < n ∧ n ≤ 1000 ∧ 0 < M ∧ M ≤ 64 * n ∧ 0 < K ∧ K ≤ 8) :
    Calls Try.prog 16 #[.pointer (some ⟨fb, 0, none⟩)] w fun e w' => ∃ s1 c, e = .returned (.agg #[.int .u64 (M : Nat), .int .u64 (K : Nat), .slice (some ⟨s1, 0, none⟩) n c]) ∧ w.heap.size ≤ s1 ∧ (∀ j, j < n → w'.cell? ⟨s1, j, none⟩ = some (.int .u64 (Bit.wd g j : Nat))) ∧ Ch S0 w w' := by
  have hoff := h.bs.off
  have h' : Fl (w.alloc (Obj.cells #[Value.int .u64 0, .int .u64 0, .slice none 0 0] 27)) fb b sb M K n g := h.keep (S := S0) ((Ch.refl _ _).alloc _) (fun h => h) (fun h => h) (fun h => h)
  obtain ⟨cap, c0, c1, h4, h5, f0, f1, fs, h6⟩ := h'.bs.look
  rw [nw64] at c1 h6 h4
  have hlt := h'.bs.lt
  have hW : Wds (w.alloc (Obj.cells #[Value.int .u64 0, .int .u64 0, .slice none 0 0] 27)) (some ⟨sb, 0, none⟩) n g := fun j hj => ⟨sb, 0, rfl, by rw [Nat.zero_add]; exact h6 j hj⟩
  have HB := Lib.hid h'.blk
  have HW := Lib.hid hW
  have HO := Lib.hid hoff
  have HR := Lib.hid (Blk.new w #[Value.int .u64 0, .int .u64 0, .slice none 0 0] 27)
  have HP := Lib.hid hp
  have C1 := Lib.hid c1
  have hsz : w.heap.size < (w.alloc (Obj.cells #[Value.int .u64 0, .int .u64 0, .slice none 0 0] 27)).heap.size := by simp
  have HC0 := Lib.hid ((Ch.refl S0 w).alloc (Obj.cells #[Value.int .u64 0, .int .u64 0, .slice none 0 0] 27))
  clear h h' c0 c1 f0 f1 fs h6 hoff hW hp
  go_enter Try.func16, Try.ntmps16
  go_wp2_with fail
  generalize w.alloc (Obj.cells #[Value.int .u64 0, .int .u64 0, .slice none 0 0] 27) = w0 at *
  refine (fcap_any fb _ _ _ _ HB.out ⟨_, _, rfl⟩).mono ?_
  rintro e w' ⟨rfl, rfl⟩
  go_wp2_with fail
  refine (fk_any fb _ _ _ _ HB.out ⟨_, _, rfl⟩).mono ?_
  rintro e w' ⟨rfl, rfl⟩
  go_wp2_with fail
  refine (fb_any fb _ _ _ _ HB.out ⟨_, rfl⟩).mono ?_
  rintro e w' ⟨rfl, rfl⟩
  go_wp2_with fail
  refine (fw_any b (.int .u64 0) _ _ _ _ C1.out).mono ?_
  rintro e w' ⟨rfl, rfl⟩
  go_wp2_with fail
  refine (words_any n _ cap g _ HP.out.1 HP.out.2.1 HW.out).mono ?_
  rintro e w1 ⟨s1, c, C, rfl, hB1, k1, k2, k3, k4, k5, hC1⟩
  have hBR := HR.out.keep hC1 (fun h => h)
  have b0 := hBR.cell 0
  have b1 := hBR.cell 1
  have b2 := hBR.cell 2
  have g0 := hBR.free 0
  have g1 := hBR.free 1
  have g2 := hBR.free 2
  simp only [List.getElem?_toArray, List.getElem?_cons_zero, List.getElem?_cons_succ] at b0 b1 b2
  have HB1 := Lib.hid hB1
  have HK4 := Lib.hid k4
  have HC1 := Lib.hid (HC0.out.trans hC1)
  have hs1 : w.heap.size ≠ s1 := by omega
  clear hB1 k4 hBR hC1
  go_wp2_with fail
  refine bodyPost_ret (v := .agg #[.int .u64 (M : Nat), .int .u64 (K : Nat), .slice (some ⟨s1, 0, none⟩) n c]) (by simp [results, Try.results16, go_sem, b0, b1, b2, g0, g1, g2]) rfl ⟨s1, c, rfl, by omega, fun j hj => ?_, ?_⟩
  · have := (((HB1.out.setOther (p := ⟨w.heap.size, 0, none⟩) hs1 (.int .u64 (M : Nat))).setOther (p := ⟨w.heap.size, 1, none⟩) hs1 (.int .u64 (K : Nat))).setOther (p := ⟨w.heap.size, 2, none⟩) hs1 (.slice (some ⟨s1, 0, none⟩) n c)).cell j
    rw [this]
    exact HK4.out j hj
  · exact ((HC1.out.setCell _ (fun h => absurd h (Nat.lt_irrefl _)) _).setCell _ (fun h => absurd h (Nat.lt_irrefl _)) _).setCell _ (fun h => absurd h (Nat.lt_irrefl _)) _
end Go.Proofs.Ytagillnkdaanaaa
