/- SETS: dsSaid. -/
import Derived.Test.YtjifdcklmpibpaaT4
namespace Go.Proofs.Ytjifdcklmpibpaa
open Go.RowKit
set_option linter.unusedVariables false
set_option linter.unusedSimpArgs false

def SaidOf (w : World) (S : Int → Bool) (n : Nat) (r : Ending) (w' : World) : Prop := ∃ (F : Option Addr) (cf : Nat) (b : Bool) (ea : Option Addr) (en ec : Nat) (done : List Int), r = .returned (.tuple #[.agg #[.int .i64 n, .slice F n cf, .bool b, .slice ea en ec], .bool true]) ∧ Rd w' F (iv done) ∧ done.length = n ∧ done.Nodup ∧ (∀ y, y ∈ done ↔ S y = true) ∧ Ch S0 w w'

theorem known_n : (does 2 (puts (fun _ => false, 0) [4, 9, 4]) [9]).2 = 1 := by decide
theorem known_in {done : List Int} (h1 : done.length = (does 2 (puts (fun _ => false, 0) [4, 9, 4]) [9]).2) (h2 : ∀ y, y ∈ done ↔ (does 2 (puts (fun _ => false, 0) [4, 9, 4]) [9]).1 y = true) : done = [4] := by
  rw [known_n] at h1
  have h3 := (h2 4).2 (by decide)
  match done, h1, h3 with
  | [x], _, h3 => simp at h3; rw [h3]

set_option maxRecDepth 100000 in
set_option maxHeartbeats 4000000 in
theorem said_any (A B C : Option Addr) (n cA cB m cC : Nat) (op : Int) (xs ys : List Int) (w : World) (hop : op = 1 ∨ op = 2) (hx : xs.length = n) (hn : n ≤ 1000) (hA : Rd w A (iv xs)) (hB : Rd w B [.int .i64 op, .slice C m cC]) (hy : ys.length = m) (hm : m ≤ 1000) (hC : Rd w C (iv ys)) :
    Calls Try.prog 6 #[.slice A n cA, .slice B 1 cB] w fun r w' => SaidOf w (does op (puts (fun _ => false, 0) xs) ys).1 (does op (puts (fun _ => false, 0) xs) ys).2 r w' := by
  have HX := Lib.hid hx
  have HY := Lib.hid hy
  have HA := Lib.hid hA
  have HB := Lib.hid hB
  have HC := Lib.hid hC
  obtain ⟨p, hp⟩ : ∃ p, does op (puts (fun _ => false, 0) xs) ys = p := ⟨_, rfl⟩
  rw [hp]
  have HP := Lib.hid hp
  clear hx hy hA hB hC hp
  obtain ⟨W1, hW1⟩ : ∃ W1, W1 = (((w.alloc (.cells #[.int .i64 0, .slice none 0 0, .bool false, .slice none 0 0] 29)).alloc (.cells #[.int .i64 4, .int .i64 9, .int .i64 4] 3)).alloc (.cells #[.int .i64 9] 3)).alloc (.cells #[.int .i64 2, .slice (some ⟨w.heap.size + 1 + 1, 0, none⟩) 1 1] 33) := ⟨_, rfl⟩
  have hC1 : Ch S0 w W1 := by rw [hW1]; exact ((((Ch.refl S0 w).alloc _).alloc _).alloc _).alloc _
  have hz1 : Blk W1 w.heap.size #[.int .i64 0, .slice none 0 0, .bool false, .slice none 0 0] := by rw [hW1]; exact (((Blk.new w _ _).alloc _).alloc _).alloc _
  have hr1 : Rd W1 (some ⟨w.heap.size + 1, 0, none⟩) (iv [4, 9, 4]) := by
    have h1 := Rd.new (w.alloc (.cells #[.int .i64 0, .slice none 0 0, .bool false, .slice none 0 0] 29)) (iv [4, 9, 4]) 3
    have h2 := (h1.keep0 ((Ch.refl S0 _).alloc (.cells #[.int .i64 9] 3))).keep0 ((Ch.refl S0 _).alloc (.cells #[.int .i64 2, .slice (some ⟨w.heap.size + 1 + 1, 0, none⟩) 1 1] 33))
    rw [hW1]
    simpa [iv] using h2
  have hr2 : Rd W1 (some ⟨w.heap.size + 1 + 1, 0, none⟩) (iv [9]) := by
    have h1 := Rd.new ((w.alloc (.cells #[.int .i64 0, .slice none 0 0, .bool false, .slice none 0 0] 29)).alloc (.cells #[.int .i64 4, .int .i64 9, .int .i64 4] 3)) (iv [9]) 3
    have h2 := h1.keep0 ((Ch.refl S0 _).alloc (.cells #[.int .i64 2, .slice (some ⟨w.heap.size + 1 + 1, 0, none⟩) 1 1] 33))
    rw [hW1]
    simpa [iv] using h2
  have hr3 : Rd W1 (some ⟨w.heap.size + 1 + 1 + 1, 0, none⟩) [.int .i64 2, .slice (some ⟨w.heap.size + 1 + 1, 0, none⟩) 1 1] := by
    have h1 := Rd.new (((w.alloc (.cells #[.int .i64 0, .slice none 0 0, .bool false, .slice none 0 0] 29)).alloc (.cells #[.int .i64 4, .int .i64 9, .int .i64 4] 3)).alloc (.cells #[.int .i64 9] 3)) [.int .i64 2, .slice (some ⟨w.heap.size + 1 + 1, 0, none⟩) 1 1] 33
    rw [hW1]
    simpa using h1
  have HW1 := Lib.hid hW1
  have HC1 := Lib.hid hC1
  have HZ1 := Lib.hid hz1
  have HR1 := Lib.hid hr1
  have HR2 := Lib.hid hr2
  have HR3 := Lib.hid hr3
  clear hW1 hC1 hz1 hr1 hr2 hr3
  go_enter Try.func6, Try.ntmps6
  go_wp2_with fail
  rw [← HW1.out]
  refine (run_one (some ⟨w.heap.size + 1, 0, none⟩) (some ⟨w.heap.size + 1 + 1 + 1, 0, none⟩) (some ⟨w.heap.size + 1 + 1, 0, none⟩) 3 3 1 1 1 2 [4, 9, 4] [9] W1 (Or.inr rfl) rfl (by omega) HR1.out HR3.out rfl (by omega) HR2.out).mono ?_
  rintro r w2 ⟨v, rfl, g, cap, F, cf, b, ea, en, ec, done, rfl, hRo, hRF, _, hdl, hnd, hmem, hC2⟩
  obtain rfl := known_in hdl hmem
  rw [known_n] at hRo
  have HRF := Lib.hid hRF
  have hz2 := HZ1.out.keep hC2 (fun h => h)
  have hsl := hz2.lt
  obtain ⟨_, _, e, k0⟩ := hRo.at (j := 0) rfl
  cases e
  obtain ⟨_, _, e, k1⟩ := hRo.at (j := 1) rfl
  cases e
  obtain ⟨_, _, e, k2⟩ := hRo.at (j := 2) rfl
  cases e
  obtain ⟨_, _, e, k3⟩ := hRo.at (j := 3) rfl
  cases e
  have k0 : w2.cell? ⟨g, 0, none⟩ = some (.int .i64 1) := k0
  simp only [Nat.zero_add] at k1 k2 k3
  have HZ2 := Lib.hid hz2
  have HC2 := Lib.hid (HC1.out.trans hC2)
  clear hRo hRF hdl hnd hmem hz2 hC2
  go_wp2_with fail
  refine (equal_int F _ 1 1 cf _ [4] [4] _ rfl rfl (by omega) (by omega) (HRF.out.keep0 ((Ch.refl S0 _).alloc _)) (Rd.new w2 (iv [4]) 3)).mono ?_
  rintro r w3 ⟨rfl, hC3⟩
  have e : decide (([4] : List Int) = [4]) = true := by decide
  rw [e]
  have hC3' := ((Ch.refl S0 w2).alloc (.cells #[.int .i64 4] 3)).trans hC3
  have HC3 := Lib.hid (HC2.out.trans hC3')
  have HZ3 := Lib.hid (HZ2.out.keep hC3' (fun h => h))
  clear hC3 hC3' e k0 k1 k2 k3
  go_wp2_with fail
  refine (run_one A B C n cA cB m cC op xs ys w3 hop HX.out hn (HA.out.keep0 HC3.out) (HB.out.keep0 HC3.out) HY.out hm (HC.out.keep0 HC3.out)).mono ?_
  rintro r w4 ⟨v, rfl, g, cap, F, cf, b, ea, en, ec, done, rfl, hRo, hRF, hfw, hdl, hnd, hmem, hC4⟩
  rw [HP.out] at hRo hdl hmem
  obtain ⟨N, hN⟩ : ∃ N, p.2 = N := ⟨_, rfl⟩
  rw [hN] at hRo hdl
  have HN := Lib.hid hN
  have HRF := Lib.hid hRF
  have HDl := Lib.hid hdl
  have HNd := Lib.hid hnd
  have HMem := Lib.hid hmem
  have hz4 := HZ3.out.keep hC4 (fun h => h)
  obtain ⟨_, _, e, k0⟩ := hRo.at (j := 0) rfl
  cases e
  obtain ⟨_, _, e, k1⟩ := hRo.at (j := 1) rfl
  cases e
  obtain ⟨_, _, e, k2⟩ := hRo.at (j := 2) rfl
  cases e
  obtain ⟨_, _, e, k3⟩ := hRo.at (j := 3) rfl
  cases e
  have k0 : w4.cell? ⟨g, 0, none⟩ = some (.int .i64 N) := k0
  simp only [Nat.zero_add] at k1 k2 k3
  have z0 := hz4.cell 0
  have z1 := hz4.cell 1
  have z2 := hz4.cell 2
  have z3 := hz4.cell 3
  have y0 := hz4.free 0
  have y1 := hz4.free 1
  have y2 := hz4.free 2
  have y3 := hz4.free 3
  simp only [List.getElem?_toArray, List.getElem?_cons_zero, List.getElem?_cons_succ] at z0 z1 z2 z3
  have HC4 := Lib.hid (HC3.out.trans hC4)
  have hsl4 := hz4.lt
  have hw3 : w.heap.size < w3.heap.size := HZ3.out.lt
  have HFw := Lib.hid hfw
  have HW3 := Lib.hid hw3
  clear hRo hRF hdl hnd hmem hz4 hC4 hN hfw hw3
  go_wp2_with fail
  refine bodyPost_ret (v := .tuple #[.agg #[.int .i64 N, .slice F N cf, .bool b, .slice ea en ec], .bool true]) ?_ rfl ?_
  · simp [results, Try.results6, go_sem, z0, z1, z2, z3, hsl4]
  · have hch : Ch (S1 w.heap.size) w4 ((((w4.setCell ⟨w.heap.size, 0, none⟩ (.int .i64 (N : Nat))).setCell ⟨w.heap.size, 1, none⟩ (.slice F N cf)).setCell ⟨w.heap.size, 2, none⟩ (.bool b)).setCell ⟨w.heap.size, 3, none⟩ (.slice ea en ec)) :=
      ((((Ch.refl (S1 w.heap.size) w4).setCell ⟨w.heap.size, 0, none⟩ (fun _ => rfl) _).setCell ⟨w.heap.size, 1, none⟩ (fun _ => rfl) _).setCell ⟨w.heap.size, 2, none⟩ (fun _ => rfl) _).setCell ⟨w.heap.size, 3, none⟩ (fun _ => rfl) _
    refine ⟨F, cf, b, ea, en, ec, done, by rw [HN.out], ?_, by rw [HN.out]; exact HDl.out, HNd.out, HMem.out, HC4.out.trans' hch (fun i hi e => by have e : i = w.heap.size := e; omega)⟩
    exact HRF.out.keep hch (fun b o h e => by have h1 := HFw.out b o h; have e : b = w.heap.size := e; have := HW3.out; omega)
end Go.Proofs.Ytjifdcklmpibpaa
