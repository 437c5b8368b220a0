/- WALKS: FromWithM, filter, told: a filter made of plain data, and back. -/
import Derived.Test.YtagillnkdaanaaaB
import Derived.Deep.RegionHeld3
namespace Go.Proofs.Ytagillnkdaanaaa
open Go.RowKit
set_option linter.unusedVariables false
set_option linter.unusedSimpArgs false

/-- A filter in memory: at fb, its bitset at b, the words of it in block sb. -/
structure Fl (w : World) (fb b sb M K n : Nat) (g : Nat → Bool) : Prop where
  blk : Blk w fb #[.int .u64 M, .int .u64 K, .pointer (some ⟨b, 0, none⟩)]
  bs : BS w b sb (64 * n) g
  ne : fb ≠ b ∧ fb ≠ sb
theorem Fl.keep {S : Nat → Prop} {w w' : World} {fb b sb M K n : Nat} {g : Nat → Bool} (h : Fl w fb b sb M K n g) (hc : Ch S w w') (h1 : ¬ S fb) (h2 : ¬ S b) (h3 : ¬ S sb) : Fl w' fb b sb M K n g :=
  ⟨h.blk.keep hc h1, h.bs.keep hc h2 h3, h.ne⟩

set_option maxRecDepth 100000 in
set_option maxHeartbeats 1000000 in
theorem fromM_any (n sb c M K : Nat) (C : Array Value) (g : Nat → Bool) (w : World) (hn : n ≤ 1000) (hB : Blk w sb C) (h1 : C.size = c) (h2 : n ≤ c) (h3 : c ≤ 9223372036854775807) (h4 : ∀ j, j < n → C[j]? = some (.int .u64 (Bit.wd g j : Nat))) (hoff : ∀ k, 64 * n ≤ k → g k = false) :
    Calls Try.prog 22 #[.slice (some ⟨sb, 0, none⟩) n c, .int .u64 M, .int .u64 K] w fun e w' => ∃ fb b, e = .returned (.pointer (some ⟨fb, 0, none⟩)) ∧ Fl w' fb b sb M K n g ∧ w.heap.size ≤ fb ∧ w.heap.size ≤ b ∧ Ch S0 w w' := by
  have hsb := hB.lt
  have HF := Lib.hid (from_any n sb c C g w hn hB h1 h2 h3 h4 hoff)
  clear hB h4 hoff h1
  go_enter Try.func22, Try.ntmps22
  go_wp2_with fail
  refine HF.out.mono ?_
  rintro e w1 ⟨b, rfl, hb, hbn, hC⟩
  have hlt := hb.lt
  have HB := Lib.hid hb
  have HC := Lib.hid hC
  have hsz := hC.size
  clear hb hC
  go_wp2_with fail
  go_ret
  refine ⟨w1.heap.size, b, rfl, ⟨Blk.new _ _ _, HB.out.keep (S := S0) ((Ch.refl _ _).alloc _) (fun h => h) (fun h => h), by omega, by omega⟩, hsz, hbn, HC.out.alloc _⟩

set_option maxRecDepth 100000 in
set_option maxHeartbeats 2000000 in
theorem filter_any (v : Value) (M K n : Nat) (g : Nat → Bool) (w : World) (h : IsF w v M K n g) :
    Calls Try.prog 14 #[v] w fun e w' => ∃ fb b sb, e = .returned (.pointer (some ⟨fb, 0, none⟩)) ∧ Fl w' fb b sb M K n g ∧ w.heap.size ≤ fb ∧ w.heap.size ≤ b ∧ w.heap.size ≤ sb ∧ Ch S0 w w' := by
  obtain ⟨⟨p1, p2, p3, p4, p5, p6⟩, hoff, A, cap, rfl, hw⟩ := h
  have HW := Lib.hid (hw.keep ((Ch.refl S0 w).alloc (Obj.cells #[Value.int .u64 (M : Nat), .int .u64 (K : Nat), .slice A n cap] 27)))
  have HO := Lib.hid hoff
  have HB := Lib.hid (Blk.new w #[Value.int .u64 (M : Nat), .int .u64 (K : Nat), .slice A n cap] 27)
  have hsz0 : w.heap.size ≤ (w.alloc (Obj.cells #[Value.int .u64 (M : Nat), .int .u64 (K : Nat), .slice A n cap] 27)).heap.size := by simp
  have HC0 := Lib.hid ((Ch.refl S0 w).alloc (Obj.cells #[Value.int .u64 (M : Nat), .int .u64 (K : Nat), .slice A n cap] 27))
  clear hw hoff
  go_enter Try.func14, Try.ntmps14
  go_wp2_with fail
  generalize w.alloc (Obj.cells #[Value.int .u64 (M : Nat), .int .u64 (K : Nat), .slice A n cap] 27) = w0 at *
  have c0 := HB.out.cell 0
  have c1 := HB.out.cell 1
  have c2 := HB.out.cell 2
  have hbl := HB.out.lt
  simp only [List.getElem?_toArray, List.getElem?_cons_zero, List.getElem?_cons_succ] at c0 c1 c2
  go_region_held3 (fun w' => w'.cell? ⟨w.heap.size, 0, none⟩ = some (.int .u64 (M : Nat)) ∧ w'.cell? ⟨w.heap.size, 1, none⟩ = some (.int .u64 (K : Nat)) ∧ w'.cell? ⟨w.heap.size, 2, none⟩ = some (.slice A n cap))
    (first | ((try dsimp only); (repeat' apply And.intro) <;> assumption) | (go_keep; done))
    (first
      | (go_at_call 23
         (with_reducible refine (words_any n A cap g _ p1 p2 (HW.out.keep (by first | exact Ch.refl S0 _ | exact (Ch.refl S0 _).drew | exact ((Ch.refl S0 _).drew).drew | exact (Ch.refl S0 _).alloc _ | exact ((Ch.refl S0 _).alloc _).drew | exact ((Ch.refl S0 _).drew).alloc _))).mono ?_)
         rintro e w1 ⟨sb, c, C, rfl, hB1, k1, k2, k3, k4, k5, hC1⟩
         have hCC : Ch S0 w0 w1 := Ch.trans (by first | exact Ch.refl S0 _ | exact (Ch.refl S0 _).drew | exact ((Ch.refl S0 _).drew).drew | exact (Ch.refl S0 _).alloc _ | exact ((Ch.refl S0 _).alloc _).drew | exact ((Ch.refl S0 _).drew).alloc _) hC1
         have HCC := Lib.hid hCC
         have HB1 := Lib.hid hB1
         have HK4 := Lib.hid k4
         have hk5 : w0.heap.size ≤ sb := k5
         have HBx := Lib.hid (HB.out.keep hCC (fun h => h))
         clear c0 c1 c2 hC1 hCC hB1 k4 k5
         have c0 := HBx.out.cell 0
         have c1 := HBx.out.cell 1
         have c2 := HBx.out.cell 2
         simp only [List.getElem?_toArray, List.getElem?_cons_zero, List.getElem?_cons_succ] at c0 c1 c2)
      | (go_at_call 22
         (with_reducible refine (fromM_any n sb c M K C g _ p2 (Blk.keep (S := S0) HB1.out (by first | exact Ch.refl S0 _ | exact (Ch.refl S0 _).drew | exact ((Ch.refl S0 _).drew).drew | exact (Ch.refl S0 _).alloc _ | exact ((Ch.refl S0 _).alloc _).drew | exact ((Ch.refl S0 _).drew).alloc _) (fun h => h)) k1 k2 k3 HK4.out HO.out).mono ?_)
         rintro e w2 ⟨fb, b, rfl, hF, k6, k7, hC2⟩
         have hs1 := HCC.out.size
         have hk6 : w1.heap.size ≤ fb := k6
         have hk7 : w1.heap.size ≤ b := k7
         have hCC2 : Ch S0 w1 w2 := Ch.trans (by first | exact Ch.refl S0 _ | exact (Ch.refl S0 _).drew | exact ((Ch.refl S0 _).drew).drew | exact (Ch.refl S0 _).alloc _ | exact ((Ch.refl S0 _).alloc _).drew | exact ((Ch.refl S0 _).drew).alloc _) hC2
         have HF := Lib.hid hF
         have HC2 := Lib.hid ((HC0.out.trans HCC.out).trans hCC2)
         have HBy := Lib.hid (HBx.out.keep hCC2 (fun h => h))
         clear c0 c1 c2 hC2 hCC2 hF k6 k7
         have c0 := HBy.out.cell 0
         have c1 := HBy.out.cell 1
         have c2 := HBy.out.cell 2
         simp only [List.getElem?_toArray, List.getElem?_cons_zero, List.getElem?_cons_succ] at c0 c1 c2))
  go_wp2_with fail
  go_ret
  exact ⟨fb, b, sb, rfl, HF.out.keep (by first | exact Ch.refl S0 _ | exact (Ch.refl S0 _).drew | exact ((Ch.refl S0 _).drew).drew | exact (Ch.refl S0 _).alloc _ | exact ((Ch.refl S0 _).alloc _).drew | exact ((Ch.refl S0 _).drew).alloc _) (fun h => h) (fun h => h) (fun h => h), by omega, by omega, by omega, HC2.out.trans (by first | exact Ch.refl S0 _ | exact (Ch.refl S0 _).drew | exact ((Ch.refl S0 _).drew).drew | exact (Ch.refl S0 _).alloc _ | exact ((Ch.refl S0 _).alloc _).drew | exact ((Ch.refl S0 _).drew).alloc _)⟩
end Go.Proofs.Ytagillnkdaanaaa
