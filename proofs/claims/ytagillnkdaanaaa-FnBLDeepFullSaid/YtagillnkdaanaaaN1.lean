/- WALKS: BLNew: the new filter. -/
import Derived.Test.YtagillnkdaanaaaY
import Derived.Test.YtagillnkdaanaaaD
namespace Go.Proofs.Ytagillnkdaanaaa
open Go.RowKit
set_option linter.unusedVariables false
set_option linter.unusedSimpArgs false

set_option maxRecDepth 100000 in
theorem max_any (n : Nat) (w : World) (h : 0 < n) : Calls Try.prog 35 #[.int .u64 1, .int .u64 n] w fun e w' => e = .returned (.int .u64 n) ∧ w = w' := by
  by_cases h1 : (n : Int) < 1
  · omega
  · go_enter Try.func35, Try.ntmps35
    go_wp2_with fail
    go_ret
    exact ⟨rfl, rfl⟩

set_option maxRecDepth 100000 in
set_option maxHeartbeats 1000000 in
theorem bnew_any (M K : Nat) (w : World) (h1 : 0 < M ∧ M ≤ 1000) (h2 : 0 < K ∧ K ≤ 8) :
    Calls Try.prog 20 #[.int .u64 M, .int .u64 K] w fun e w' => ∃ fb b sb, e = .returned (.pointer (some ⟨fb, 0, none⟩)) ∧ Blk w' fb #[.int .u64 M, .int .u64 K, .pointer (some ⟨b, 0, none⟩)] ∧ BS w' b sb M (fun _ => false) ∧ Ch S0 w w' := by
  go_enter Try.func20, Try.ntmps20
  go_wp2_with fail
  refine (max_any M _ h1.1).mono ?_
  rintro e w' ⟨rfl, rfl⟩
  go_wp2_with fail
  refine (max_any K _ h2.1).mono ?_
  rintro e w' ⟨rfl, rfl⟩
  go_wp2_with fail
  refine (new_any M (by omega) _).mono ?_
  rintro e w1 ⟨b, sb, rfl, hB, k1, k2, hC⟩
  have HB := Lib.hid hB
  have HC := Lib.hid hC
  clear hB hC
  go_wp2_with fail
  go_ret
  exact ⟨_, b, sb, rfl, Blk.new _ _ _, HB.out.keep (S := S0) ((Ch.refl _ _).alloc _) (fun h => h) (fun h => h), HC.out.alloc _⟩

set_option maxRecDepth 100000 in
set_option maxHeartbeats 2000000 in
theorem told_len (fb b sb M K n L : Nat) (g : Nat → Bool) (w : World) (hL : nw L = n) (hblk : Blk w fb #[.int .u64 M, .int .u64 K, .pointer (some ⟨b, 0, none⟩)]) (hbs : BS w b sb L g) (hp : 0 < n ∧ n ≤ 1000 ∧ 0 < M ∧ M ≤ 64 * n ∧ 0 < K ∧ K ≤ 8) :
    Calls Try.prog 16 #[.pointer (some ⟨fb, 0, none⟩)] w fun e w' => ∃ s1 c, e = .returned (.agg #[.int .u64 (M : Nat), .int .u64 (K : Nat), .slice (some ⟨s1, 0, none⟩) n c]) ∧ w.heap.size ≤ s1 ∧ (∀ j, j < n → w'.cell? ⟨s1, j, none⟩ = some (.int .u64 (Bit.wd g j : Nat))) ∧ Ch S0 w w' := by
  have hblk' : Blk (w.alloc (Obj.cells #[Value.int .u64 0, .int .u64 0, .slice none 0 0] 27)) fb #[.int .u64 M, .int .u64 K, .pointer (some ⟨b, 0, none⟩)] := hblk.keep (S := S0) ((Ch.refl _ _).alloc _) (fun h => h)
  have hbs' : BS (w.alloc (Obj.cells #[Value.int .u64 0, .int .u64 0, .slice none 0 0] 27)) b sb L g := hbs.keep (S := S0) ((Ch.refl _ _).alloc _) (fun h => h) (fun h => h)
  obtain ⟨cap, c0, c1, h4, h5, f0, f1, fs, h6⟩ := hbs'.look
  rw [hL] at c1 h6 h4
  have hlt := hbs'.lt
  have hW : Wds (w.alloc (Obj.cells #[Value.int .u64 0, .int .u64 0, .slice none 0 0] 27)) (some ⟨sb, 0, none⟩) n g := fun j hj => ⟨sb, 0, rfl, by rw [Nat.zero_add]; exact h6 j hj⟩
  have HB := Lib.hid hblk'
  have HW := Lib.hid hW
  have HR := Lib.hid (Blk.new w #[Value.int .u64 0, .int .u64 0, .slice none 0 0] 27)
  have HP := Lib.hid hp
  have C1 := Lib.hid c1
  have hsz : w.heap.size < (w.alloc (Obj.cells #[Value.int .u64 0, .int .u64 0, .slice none 0 0] 27)).heap.size := by simp
  have HC0 := Lib.hid ((Ch.refl S0 w).alloc (Obj.cells #[Value.int .u64 0, .int .u64 0, .slice none 0 0] 27))
  clear hblk hbs hblk' hbs' c0 c1 f0 f1 fs h6 hW hp hL
  go_enter Try.func16, Try.ntmps16
  go_wp2_with fail
  generalize w.alloc (Obj.cells #[Value.int .u64 0, .int .u64 0, .slice none 0 0] 27) = w0 at *
  refine (fcap_any fb _ _ _ _ HB.out ⟨_, _, rfl⟩).mono ?_
  rintro e w' ⟨rfl, rfl⟩
  go_wp2_with fail
  refine (fk_any fb _ _ _ _ HB.out ⟨_, _, rfl⟩).mono ?_
  rintro e w' ⟨rfl, rfl⟩
  go_wp2_with fail
  refine (fb_any fb _ _ _ _ HB.out ⟨_, rfl⟩).mono ?_
  rintro e w' ⟨rfl, rfl⟩
  go_wp2_with fail
  refine (fw_any b (.int .u64 0) _ _ _ _ C1.out).mono ?_
  rintro e w' ⟨rfl, rfl⟩
  go_wp2_with fail
  refine (words_any n _ cap g _ HP.out.1 HP.out.2.1 HW.out).mono ?_
  rintro e w1 ⟨s1, c, C, rfl, hB1, k1, k2, k3, k4, k5, hC1⟩
  have hBR := HR.out.keep hC1 (fun h => h)
  have b0 := hBR.cell 0
  have b1 := hBR.cell 1
  have b2 := hBR.cell 2
  have g0 := hBR.free 0
  have g1 := hBR.free 1
  have g2 := hBR.free 2
  simp only [List.getElem?_toArray, List.getElem?_cons_zero, List.getElem?_cons_succ] at b0 b1 b2
  have HB1 := Lib.hid hB1
  have HK4 := Lib.hid k4
  have HC1 := Lib.hid (HC0.out.trans hC1)
  have hs1 : w.heap.size ≠ s1 := by omega
  clear hB1 k4 hBR hC1
  go_wp2_with fail
  refine bodyPost_ret (v := .agg #[.int .u64 (M : Nat), .int .u64 (K : Nat), .slice (some ⟨s1, 0, none⟩) n c]) (by simp [results, Try.results16, go_sem, b0, b1, b2, g0, g1, g2]) rfl ⟨s1, c, rfl, by omega, fun j hj => ?_, ?_⟩
  · have := (((HB1.out.setOther (p := ⟨w.heap.size, 0, none⟩) hs1 (.int .u64 (M : Nat))).setOther (p := ⟨w.heap.size, 1, none⟩) hs1 (.int .u64 (K : Nat))).setOther (p := ⟨w.heap.size, 2, none⟩) hs1 (.slice (some ⟨s1, 0, none⟩) n c)).cell j
    rw [this]
    exact HK4.out j hj
  · exact ((HC1.out.setCell _ (fun h => absurd h (Nat.lt_irrefl _)) _).setCell _ (fun h => absurd h (Nat.lt_irrefl _)) _).setCell _ (fun h => absurd h (Nat.lt_irrefl _)) _


set_option maxRecDepth 100000 in
set_option maxHeartbeats 2000000 in
/-- BLNew: no bit is set. -/
theorem blnew_any (M K : Nat) (w : World) (h1 : 0 < M ∧ M ≤ 1000) (h2 : 0 < K ∧ K ≤ 8) :
    Calls Try.prog 12 #[.int .u64 M, .int .u64 K] w fun e w' => ∃ v, e = .returned v ∧ IsF w' v M K ((M + 63) / 64) (fun _ => false) ∧ Ch S0 w w' := by
  obtain ⟨n, hn⟩ : ∃ n, n = (M + 63) / 64 := ⟨_, rfl⟩
  rw [← hn]
  have hp : 0 < n ∧ n ≤ 1000 ∧ 0 < M ∧ M ≤ 64 * n ∧ 0 < K ∧ K ≤ 8 := by omega
  have hL : nw M = n := hn.symm
  have HP := Lib.hid hp
  have HL := Lib.hid hL
  have HR := Lib.hid (Blk.new w #[Value.int .u64 0, .int .u64 0, .slice none 0 0] 27)
  have HC0 := Lib.hid ((Ch.refl S0 w).alloc (Obj.cells #[Value.int .u64 0, .int .u64 0, .slice none 0 0] 27))
  clear hp hL hn
  go_enter Try.func12, Try.ntmps12
  go_wp2_with fail
  refine (bnew_any M K _ h1 h2).mono ?_
  rintro e w1 ⟨fb, b, sb, rfl, hB, hS, hC⟩
  have HB := Lib.hid hB
  have HS := Lib.hid hS
  have HC1 := Lib.hid (HC0.out.trans hC)
  have HR1 := Lib.hid (HR.out.keep hC (fun h => h))
  clear hB hS hC
  go_wp2_with fail
  refine (told_len fb b sb M K n M _ _ HL.out HB.out HS.out HP.out).mono ?_
  rintro e w2 ⟨s1, c, rfl, k1, hw, hC⟩
  have HW := Lib.hid hw
  have HC2 := Lib.hid (HC1.out.trans hC)
  have hBR := HR1.out.keep hC (fun h => h)
  have b0 := hBR.cell 0
  have b1 := hBR.cell 1
  have b2 := hBR.cell 2
  have g0 := hBR.free 0
  have g1 := hBR.free 1
  have g2 := hBR.free 2
  have hlt := HR1.out.lt
  simp only [List.getElem?_toArray, List.getElem?_cons_zero, List.getElem?_cons_succ] at b0 b1 b2
  have hs1 : w.heap.size ≠ s1 := by omega
  clear hw hC hBR
  go_wp2_with fail
  refine bodyPost_ret (v := .agg #[.int .u64 (M : Nat), .int .u64 (K : Nat), .slice (some ⟨s1, 0, none⟩) n c]) (by simp [results, Try.results12, go_sem, b0, b1, b2, g0, g1, g2]) rfl ⟨_, rfl, ⟨HP.out, fun _ _ => rfl, _, _, rfl, fun j hj => ⟨s1, 0, rfl, ?_⟩⟩, ?_⟩
  · have hh := HW.out j hj
    simp only [Nat.zero_add]
    simp [World.cell?_setCell_other, hs1, hh]
  · exact ((HC2.out.setCell _ (fun h => absurd h (Nat.lt_irrefl _)) _).setCell _ (fun h => absurd h (Nat.lt_irrefl _)) _).setCell _ (fun h => absurd h (Nat.lt_irrefl _)) _
end Go.Proofs.Ytagillnkdaanaaa
