/- WALKS: the thin package's Clone, None, InsertAt at 0, CopyFull, Equal. -/
import Derived.Test.YtgnhmgnpmbmjcaaVa
import Derived.Test.YtgnhmgnpmbmjcaaWz
import Derived.Test.YtgnhmgnpmbmjcaaWj
namespace Go.Proofs.Ytgnhmgnpmbmjcaa
open Go.RowKit
set_option linter.unusedVariables false
set_option linter.unusedSimpArgs false

set_option maxRecDepth 100000 in
set_option maxHeartbeats 400000 in
theorem bsclone_any {base : Nat} (v : Value) (L : Nat) (g : Nat → Bool) (w : World) (h : IsB base w v L g)  :
    Calls Try.prog 34 #[v] w fun e w' => ∃ v', e = .returned v' ∧ IsB w.heap.size w' v' (L) (g) ∧ Ch S0 w w' := by
  obtain ⟨A, n, cap, rfl⟩ := h.shape
  have hL := h.small
  have hch : Ch S0 w ((w.alloc (Obj.cells #[.int .u64 L, .slice A n cap] 25)).alloc (Obj.cells #[Value.int .u64 0, Value.slice none 0 0] 25)) := ((Ch.refl _ _).alloc _).alloc _
  have hr : Blk ((w.alloc (Obj.cells #[.int .u64 L, .slice A n cap] 25)).alloc (Obj.cells #[Value.int .u64 0, Value.slice none 0 0] 25)) (w.heap.size + 1) #[Value.int .u64 0, Value.slice none 0 0] := by
    have := Blk.new (w.alloc (Obj.cells #[.int .u64 L, .slice A n cap] 25)) #[Value.int .u64 0, Value.slice none 0 0] 25
    simpa using this
  have H := Lib.hid h
  have HR := Lib.hid hr
  have HC := Lib.hid hch
  clear h hr hch
  go_enter Try.func34, Try.ntmps34
  go_wp2_with fail
  refine (set64_any _ L g _ (H.out.keep HC.out)).mono ?_
  rintro e w1 ⟨b, sb, rfl, hB, hb1, hb2, hC1⟩
  simp at hb1 hb2
  have HB := Lib.hid hB
  have HC1 := Lib.hid hC1
  clear hB hC1
  go_wp2_with fail
  refine (clone_any b sb L g _ HB.out (by omega)).mono ?_
  rintro e w2 ⟨b2, sb', rfl, hB2, hbb, hs2, hC2⟩
  have hC02 : Ch S0 w w2 := (HC.out.trans HC1.out).trans' hC2 (fun k hk hs => hs.elim)
  have hr2 := (HR.out.keep HC1.out (fun h => h)).keep hC2 (fun h => h)
  have HB2 := Lib.hid hB2
  have HC2 := Lib.hid hC02
  have HR2 := Lib.hid hr2
  have hsz := hr2.lt
  clear hB2 hC2 hC02 hr2 hs2
  go_wp2_with fail
  refine (said64_any b2 sb' (L) _ _ HB2.out (by omega)).mono ?_
  rintro e w3 ⟨v', rfl, hV, hC3⟩
  obtain ⟨A', n', cap', rfl⟩ := hV.shape
  have hr3 := HR2.out.keep hC3 (fun h => h)
  have c0 : w3.cell? ⟨w.heap.size + 1, 0, none⟩ = some (.int .u64 0) := by rw [hr3.cell]; rfl
  have c1 : w3.cell? ⟨w.heap.size + 1, 1, none⟩ = some (.slice none 0 0) := by rw [hr3.cell]; rfl
  have f0 := hr3.free 0
  have f1 := hr3.free 1
  have hfin := (hV.set (a := ⟨w.heap.size + 1, 0, none⟩) (by simp; omega) (.int .u64 (L : Nat))).set (a := ⟨w.heap.size + 1, 1, none⟩) (by simp; omega) (.slice A' n' cap')
  have hch3 := ((HC2.out.trans hC3).setCell ⟨w.heap.size + 1, 0, none⟩ (by simp; omega) (.int .u64 (L : Nat))).setCell ⟨w.heap.size + 1, 1, none⟩ (by simp; omega) (.slice A' n' cap')
  have HF := Lib.hid (hfin.mono (base' := w.heap.size) (by omega))
  have HCF := Lib.hid hch3
  clear hV hC3 hr3 hfin hch3
  go_wp2
  exact bodyPost_ret (v := .agg #[.int .u64 (L : Nat), .slice A' n' cap']) (by simp [results, Try.results34, go_sem, c0, c1, f0, f1]) rfl ⟨_, rfl, HF.out, HCF.out⟩

set_option maxRecDepth 100000 in
set_option maxHeartbeats 400000 in
theorem bsnone_any {base : Nat} (v : Value) (L : Nat) (g : Nat → Bool) (w : World) (h : IsB base w v L g)  (hg : ∀ k, g k = false):
    Calls Try.prog 37 #[v] w fun e w' => e = .returned (.bool true) ∧ Ch S0 w w' := by
  have HG := Lib.hid hg
  clear hg
  obtain ⟨A, n, cap, rfl⟩ := h.shape
  have hL := h.small
  have hch : Ch S0 w (w.alloc (Obj.cells #[.int .u64 L, .slice A n cap] 25)) := (Ch.refl _ _).alloc _
  have H := Lib.hid h
  have HC := Lib.hid hch
  clear h hch
  go_enter Try.func37, Try.ntmps37
  go_wp2_with fail
  refine (set64_any _ L g _ (H.out.keep HC.out)).mono ?_
  rintro e w1 ⟨b, sb, rfl, hB, hb1, hb2, hC1⟩
  have HB := Lib.hid hB
  have HC1 := Lib.hid (HC.out.trans hC1)
  clear hB hC1
  go_wp2_with fail
  refine (none_any b sb L g _ HB.out (by omega) HG.out).mono ?_
  rintro e w2 ⟨rfl, hC2⟩
  have HC2 := Lib.hid (HC1.out.trans hC2)
  clear hC2
  go_wp2
  go_ret
  exact ⟨rfl, HC2.out⟩

set_option maxRecDepth 100000 in
set_option maxHeartbeats 400000 in
theorem bsinsert0_any {base : Nat} (v : Value) (L : Nat) (g : Nat → Bool) (w : World) (h : IsB base w v L g) (x : Int) (hx : x = 0) (h0 : 0 < L) (hL2 : L + 1 ≤ 20000):
    Calls Try.prog 38 #[v, .int .u64 x] w fun e w' => ∃ v', e = .returned v' ∧ IsB w.heap.size w' v' (L + 1) (shR g 1) ∧ Ch S0 w w' := by
  subst hx
  obtain ⟨A, n, cap, rfl⟩ := h.shape
  have hL := h.small
  have hch : Ch S0 w ((w.alloc (Obj.cells #[.int .u64 L, .slice A n cap] 25)).alloc (Obj.cells #[Value.int .u64 0, Value.slice none 0 0] 25)) := ((Ch.refl _ _).alloc _).alloc _
  have hr : Blk ((w.alloc (Obj.cells #[.int .u64 L, .slice A n cap] 25)).alloc (Obj.cells #[Value.int .u64 0, Value.slice none 0 0] 25)) (w.heap.size + 1) #[Value.int .u64 0, Value.slice none 0 0] := by
    have := Blk.new (w.alloc (Obj.cells #[.int .u64 L, .slice A n cap] 25)) #[Value.int .u64 0, Value.slice none 0 0] 25
    simpa using this
  have H := Lib.hid h
  have HR := Lib.hid hr
  have HC := Lib.hid hch
  clear h hr hch
  go_enter Try.func38, Try.ntmps38
  go_wp2_with fail
  refine (set64_any _ L g _ (H.out.keep HC.out)).mono ?_
  rintro e w1 ⟨b, sb, rfl, hB, hb1, hb2, hC1⟩
  simp at hb1 hb2
  have HB := Lib.hid hB
  have HC1 := Lib.hid hC1
  clear hB hC1
  go_wp2_with fail
  refine (insert0_any b sb L g _ HB.out hL h0 _ rfl).mono ?_
  rintro e w2 ⟨rfl, sb', hB2, hs2, hC2⟩
  have hC02 : Ch S0 w w2 := (HC.out.trans HC1.out).trans' hC2 (fun k hk hs => by rcases hs with e | e <;> omega)
  have hr2 := (HR.out.keep HC1.out (fun h => h)).keep hC2 (by intro hs; rcases hs with e | e <;> omega)
  have HB2 := Lib.hid hB2
  have HC2 := Lib.hid hC02
  have HR2 := Lib.hid hr2
  have hsz := hr2.lt
  clear hB2 hC2 hC02 hr2 hs2
  go_wp2_with fail
  refine (said64_any b sb' (L + 1) _ _ HB2.out (by omega)).mono ?_
  rintro e w3 ⟨v', rfl, hV, hC3⟩
  obtain ⟨A', n', cap', rfl⟩ := hV.shape
  have hr3 := HR2.out.keep hC3 (fun h => h)
  have c0 : w3.cell? ⟨w.heap.size + 1, 0, none⟩ = some (.int .u64 0) := by rw [hr3.cell]; rfl
  have c1 : w3.cell? ⟨w.heap.size + 1, 1, none⟩ = some (.slice none 0 0) := by rw [hr3.cell]; rfl
  have f0 := hr3.free 0
  have f1 := hr3.free 1
  have hfin := (hV.set (a := ⟨w.heap.size + 1, 0, none⟩) (by simp; omega) (.int .u64 (L + 1 : Nat))).set (a := ⟨w.heap.size + 1, 1, none⟩) (by simp; omega) (.slice A' n' cap')
  have hch3 := ((HC2.out.trans hC3).setCell ⟨w.heap.size + 1, 0, none⟩ (by simp; omega) (.int .u64 (L + 1 : Nat))).setCell ⟨w.heap.size + 1, 1, none⟩ (by simp; omega) (.slice A' n' cap')
  have HF := Lib.hid (hfin.mono (base' := w.heap.size) (by omega))
  have HCF := Lib.hid hch3
  clear hV hC3 hr3 hfin hch3
  go_wp2
  exact bodyPost_ret (v := .agg #[.int .u64 (L + 1 : Nat), .slice A' n' cap']) (by simp [results, Try.results38, go_sem, c0, c1, f0, f1]) rfl ⟨_, rfl, HF.out, HCF.out⟩

set_option maxRecDepth 100000 in
set_option maxHeartbeats 2000000 in
theorem bscopyfull_any {base1 base2 : Nat} (v1 v2 : Value) (L1 L2 : Nat) (g1 g2 : Nat → Bool) (w : World) (h1 : IsB base1 w v1 L1 g1) (h2 : IsB base2 w v2 L2 g2) :
    Calls Try.prog 36 #[v1, v2] w fun e w' => ∃ v', e = .returned v' ∧ IsB w.heap.size w' v' L1 g1 ∧ Ch S0 w w' := by
  obtain ⟨A1, n1, k1, rfl⟩ := h1.shape
  obtain ⟨A2, n2, k2, rfl⟩ := h2.shape
  have hL1 := h1.small
  have hL2 := h2.small
  have hch : Ch S0 w (((w.alloc (Obj.cells #[.int .u64 L1, .slice A1 n1 k1] 25)).alloc (Obj.cells #[.int .u64 L2, .slice A2 n2 k2] 25)).alloc (Obj.cells #[Value.int .u64 0, Value.slice none 0 0] 25)) := (((Ch.refl _ _).alloc _).alloc _).alloc _
  have hr1 : Blk (((w.alloc (Obj.cells #[.int .u64 L1, .slice A1 n1 k1] 25)).alloc (Obj.cells #[.int .u64 L2, .slice A2 n2 k2] 25)).alloc (Obj.cells #[Value.int .u64 0, Value.slice none 0 0] 25)) w.heap.size #[.int .u64 L1, .slice A1 n1 k1] := ((Blk.new _ _ _).alloc _).alloc _
  have hr3 : Blk (((w.alloc (Obj.cells #[.int .u64 L1, .slice A1 n1 k1] 25)).alloc (Obj.cells #[.int .u64 L2, .slice A2 n2 k2] 25)).alloc (Obj.cells #[Value.int .u64 0, Value.slice none 0 0] 25)) (w.heap.size + 1 + 1) #[Value.int .u64 0, Value.slice none 0 0] := by
    have := Blk.new ((w.alloc (Obj.cells #[.int .u64 L1, .slice A1 n1 k1] 25)).alloc (Obj.cells #[.int .u64 L2, .slice A2 n2 k2] 25)) #[Value.int .u64 0, Value.slice none 0 0] 25
    simpa using this
  have H1 := Lib.hid (h1.keep hch)
  have H2 := Lib.hid (h2.keep hch)
  have HR1 := Lib.hid hr1
  have HR3 := Lib.hid hr3
  have HC := Lib.hid hch
  clear h1 h2 hch hr1 hr3
  go_enter Try.func36, Try.ntmps36
  go_wp2_with fail
  generalize (((w.alloc (Obj.cells #[.int .u64 L1, .slice A1 n1 k1] 25)).alloc (Obj.cells #[.int .u64 L2, .slice A2 n2 k2] 25)).alloc (Obj.cells #[Value.int .u64 0, Value.slice none 0 0] 25)) = w0 at *
  refine (set64_any _ L2 g2 _ H2.out).mono ?_
  rintro e w1 ⟨b2, s2, rfl, hB2, hb2, hs2, hC1⟩
  have r1 := HR1.out.keep hC1 (fun h => h)
  have r3 := HR3.out.keep hC1 (fun h => h)
  have HC1 := Lib.hid (HC.out.trans hC1)
  have H1b := Lib.hid (H1.out.keep hC1)
  have HB2 := Lib.hid hB2
  have hsz := HR3.out.lt
  have hl2 := hB2.lt
  have x0 := r1.cell 0
  have x1 := r1.cell 1
  simp only [List.getElem?_toArray, List.getElem?_cons_zero, List.getElem?_cons_succ] at x0 x1
  have R3 := Lib.hid r3
  clear r1 r3 hB2 hC1
  go_wp2_with fail
  refine (set64_any _ L1 g1 _ H1b.out).mono ?_
  rintro e w2 ⟨b1, s1, rfl, hB1, hb1, hs1, hC2⟩
  have HB2b := Lib.hid (HB2.out.keep hC2 (fun h => h) (fun h => h))
  have R3b := Lib.hid (R3.out.keep hC2 (fun h => h))
  have HC2 := Lib.hid (HC1.out.trans hC2)
  have HB1 := Lib.hid hB1
  clear x0 x1 hB1 hC2
  go_wp2_with fail
  refine (copyFull_any b1 s1 b2 s2 L1 L2 g1 g2 _ HB1.out HB2b.out (by omega) (by omega) (by omega) (by omega) (by omega)).mono ?_
  rintro e w3 ⟨rfl, sb', hB3, hs3, hC3⟩
  have hC03 : Ch S0 w w3 := HC2.out.trans' hC3 (fun k hk hs => by rcases hs with e | e <;> omega)
  have r3 := R3b.out.keep hC3 (by intro hs; rcases hs with e | e <;> omega)
  have HB3 := Lib.hid hB3
  have HC3 := Lib.hid hC03
  have R3c := Lib.hid r3
  have hsz3 := r3.lt
  clear hB3 hC3 hC03 r3 hs3
  go_wp2_with fail
  refine (said64_any b2 sb' L1 _ _ HB3.out (by omega)).mono ?_
  rintro e w4 ⟨v', rfl, hV, hC4⟩
  obtain ⟨A', n', cap', rfl⟩ := hV.shape
  have hr4 := R3c.out.keep hC4 (fun h => h)
  have c0 : w4.cell? ⟨w.heap.size + 1 + 1, 0, none⟩ = some (.int .u64 0) := by rw [hr4.cell]; rfl
  have c1 : w4.cell? ⟨w.heap.size + 1 + 1, 1, none⟩ = some (.slice none 0 0) := by rw [hr4.cell]; rfl
  have f0 := hr4.free 0
  have f1 := hr4.free 1
  have hfin := (hV.set (a := ⟨w.heap.size + 1 + 1, 0, none⟩) (by simp; omega) (.int .u64 (L1 : Nat))).set (a := ⟨w.heap.size + 1 + 1, 1, none⟩) (by simp; omega) (.slice A' n' cap')
  have hch3 := ((HC3.out.trans hC4).setCell ⟨w.heap.size + 1 + 1, 0, none⟩ (by simp; omega) (.int .u64 (L1 : Nat))).setCell ⟨w.heap.size + 1 + 1, 1, none⟩ (by simp; omega) (.slice A' n' cap')
  have HF := Lib.hid (hfin.mono (base' := w.heap.size) (by omega))
  have HCF := Lib.hid hch3
  clear hV hC4 hr4 hfin hch3
  go_wp2
  exact bodyPost_ret (v := .agg #[.int .u64 (L1 : Nat), .slice A' n' cap']) (by simp [results, Try.results36, go_sem, c0, c1, f0, f1]) rfl ⟨_, rfl, HF.out, HCF.out⟩

set_option maxRecDepth 100000 in
set_option maxHeartbeats 2000000 in
theorem bsequal_any {base1 base2 : Nat} (v1 v2 : Value) (L1 L2 : Nat) (g1 g2 : Nat → Bool) (r : Bool) (w : World) (h1 : IsB base1 w v1 L1 g1) (h2 : IsB base2 w v2 L2 g2)
    (hcall : ∀ b1 s1 b2 s2 w, BS w b1 s1 L1 g1 → BS w b2 s2 L2 g2 → Calls Try.prog 63 #[.pointer (some ⟨b1, 0, none⟩), .pointer (some ⟨b2, 0, none⟩)] w fun e w' => e = .returned (.bool r) ∧ Ch S0 w w') :
    Calls Try.prog 35 #[v1, v2] w fun e w' => e = .returned (.bool r) ∧ Ch S0 w w' := by
  have HCALL := Lib.hid hcall
  obtain ⟨A1, n1, k1, rfl⟩ := h1.shape
  obtain ⟨A2, n2, k2, rfl⟩ := h2.shape
  have hch : Ch S0 w ((w.alloc (Obj.cells #[.int .u64 L1, .slice A1 n1 k1] 25)).alloc (Obj.cells #[.int .u64 L2, .slice A2 n2 k2] 25)) := ((Ch.refl _ _).alloc _).alloc _
  have hr1 : Blk ((w.alloc (Obj.cells #[.int .u64 L1, .slice A1 n1 k1] 25)).alloc (Obj.cells #[.int .u64 L2, .slice A2 n2 k2] 25)) w.heap.size #[.int .u64 L1, .slice A1 n1 k1] := (Blk.new _ _ _).alloc _
  have hr2 : Blk ((w.alloc (Obj.cells #[.int .u64 L1, .slice A1 n1 k1] 25)).alloc (Obj.cells #[.int .u64 L2, .slice A2 n2 k2] 25)) (w.heap.size + 1) #[.int .u64 L2, .slice A2 n2 k2] := by
    have := Blk.new (w.alloc (Obj.cells #[.int .u64 L1, .slice A1 n1 k1] 25)) #[.int .u64 L2, .slice A2 n2 k2] 25
    simpa using this
  have H1 := Lib.hid (h1.keep hch)
  have H2 := Lib.hid (h2.keep hch)
  have HR1 := Lib.hid hr1
  have HR2 := Lib.hid hr2
  have HC := Lib.hid hch
  clear h1 h2 hcall hch hr1 hr2
  go_enter Try.func35, Try.ntmps35
  go_wp2_with fail
  generalize ((w.alloc (Obj.cells #[.int .u64 L1, .slice A1 n1 k1] 25)).alloc (Obj.cells #[.int .u64 L2, .slice A2 n2 k2] 25)) = w0 at *
  have x0 := HR1.out.cell 0
  have x1 := HR1.out.cell 1
  have y0 := HR2.out.cell 0
  have y1 := HR2.out.cell 1
  simp only [List.getElem?_toArray, List.getElem?_cons_zero, List.getElem?_cons_succ] at x0 x1 y0 y1
  go_region_held3 (fun w' => w'.cell? ⟨w.heap.size, 0, none⟩ = some (.int .u64 L1) ∧ w'.cell? ⟨w.heap.size, 1, none⟩ = some (.slice A1 n1 k1) ∧ w'.cell? ⟨w.heap.size + 1, 0, none⟩ = some (.int .u64 L2) ∧ w'.cell? ⟨w.heap.size + 1, 1, none⟩ = some (.slice A2 n2 k2))
    (first | (go_keep; done) | (refine ⟨?_, ?_, ?_, ?_⟩ <;> assumption))
    (first
      | (go_at_call 42
         (with_reducible refine (set64_any (.agg #[.int .u64 L1, .slice A1 n1 k1]) L1 g1 _ (H1.out.keep (by first | exact Ch.refl _ _ | exact (Ch.refl _ _).drew | exact (Ch.refl _ _).alloc _ | exact ((Ch.refl _ _).alloc _).alloc _ | exact (((Ch.refl _ _).alloc _).alloc _).alloc _ | exact ((((Ch.refl _ _).alloc _).alloc _).alloc _).drew))).mono ?_)
         rintro e w1 ⟨b1, s1, rfl, hB1, hb1, hs1, hC⟩
         have hCC : Ch S0 w0 w1 := Ch.trans (by first | exact Ch.refl _ _ | exact (Ch.refl _ _).drew | exact (Ch.refl _ _).alloc _ | exact ((Ch.refl _ _).alloc _).alloc _ | exact (((Ch.refl _ _).alloc _).alloc _).alloc _ | exact ((((Ch.refl _ _).alloc _).alloc _).alloc _).drew) hC
         have HC1 := Lib.hid (HC.out.trans hCC)
         have HB1 := Lib.hid hB1
         have H2b := Lib.hid (H2.out.keep hCC)
         have HR1b := Lib.hid (HR1.out.keep hCC (fun h => h))
         have HR2b := Lib.hid (HR2.out.keep hCC (fun h => h))
         clear x0 x1 y0 y1 hC hCC hB1
         have x0 := HR1b.out.cell 0
         have x1 := HR1b.out.cell 1
         have y0 := HR2b.out.cell 0
         have y1 := HR2b.out.cell 1
         simp only [List.getElem?_toArray, List.getElem?_cons_zero, List.getElem?_cons_succ] at x0 x1 y0 y1)
      | (go_at_call 42
         (with_reducible refine (set64_any (.agg #[.int .u64 L2, .slice A2 n2 k2]) L2 g2 _ (H2b.out.keep (by first | exact Ch.refl _ _ | exact (Ch.refl _ _).drew | exact (Ch.refl _ _).alloc _ | exact ((Ch.refl _ _).alloc _).alloc _ | exact (((Ch.refl _ _).alloc _).alloc _).alloc _ | exact ((((Ch.refl _ _).alloc _).alloc _).alloc _).drew))).mono ?_)
         rintro e w2 ⟨b2, s2, rfl, hB2, hb2, hs2, hC⟩
         have hCC : Ch S0 w1 w2 := Ch.trans (by first | exact Ch.refl _ _ | exact (Ch.refl _ _).drew | exact (Ch.refl _ _).alloc _ | exact ((Ch.refl _ _).alloc _).alloc _ | exact (((Ch.refl _ _).alloc _).alloc _).alloc _ | exact ((((Ch.refl _ _).alloc _).alloc _).alloc _).drew) hC
         have HC2 := Lib.hid (HC1.out.trans hCC)
         have HB2 := Lib.hid hB2
         have HB1b := Lib.hid (HB1.out.keep hCC (fun h => h) (fun h => h))
         have HR1c := Lib.hid (HR1b.out.keep hCC (fun h => h))
         have HR2c := Lib.hid (HR2b.out.keep hCC (fun h => h))
         clear x0 x1 y0 y1 hC hCC hB2
         have x0 := HR1c.out.cell 0
         have x1 := HR1c.out.cell 1
         have y0 := HR2c.out.cell 0
         have y1 := HR2c.out.cell 1
         simp only [List.getElem?_toArray, List.getElem?_cons_zero, List.getElem?_cons_succ] at x0 x1 y0 y1)
      | (go_at_call 63
         (with_reducible refine (HCALL.out b1 s1 b2 s2 _ (BS.keep (S := S0) HB1b.out (by first | exact Ch.refl _ _ | exact (Ch.refl _ _).drew | exact (Ch.refl _ _).alloc _ | exact ((Ch.refl _ _).alloc _).alloc _ | exact (((Ch.refl _ _).alloc _).alloc _).alloc _ | exact ((((Ch.refl _ _).alloc _).alloc _).alloc _).drew) (fun h => h) (fun h => h)) (BS.keep (S := S0) HB2.out (by first | exact Ch.refl _ _ | exact (Ch.refl _ _).drew | exact (Ch.refl _ _).alloc _ | exact ((Ch.refl _ _).alloc _).alloc _ | exact (((Ch.refl _ _).alloc _).alloc _).alloc _ | exact ((((Ch.refl _ _).alloc _).alloc _).alloc _).drew) (fun h => h) (fun h => h))).mono ?_)
         rintro e w3 ⟨rfl, hC⟩
         have hCC : Ch S0 w2 w3 := Ch.trans (by first | exact Ch.refl _ _ | exact (Ch.refl _ _).drew | exact (Ch.refl _ _).alloc _ | exact ((Ch.refl _ _).alloc _).alloc _ | exact (((Ch.refl _ _).alloc _).alloc _).alloc _ | exact ((((Ch.refl _ _).alloc _).alloc _).alloc _).drew) hC
         have HC3 := Lib.hid (HC2.out.trans hCC)
         have HR1d := Lib.hid (HR1c.out.keep hCC (fun h => h))
         have HR2d := Lib.hid (HR2c.out.keep hCC (fun h => h))
         clear x0 x1 y0 y1 hC hCC
         have x0 := HR1d.out.cell 0
         have x1 := HR1d.out.cell 1
         have y0 := HR2d.out.cell 0
         have y1 := HR2d.out.cell 1
         simp only [List.getElem?_toArray, List.getElem?_cons_zero, List.getElem?_cons_succ] at x0 x1 y0 y1))
  go_wp2
  go_ret
  exact ⟨rfl, HC3.out⟩

theorem equal_yes (L : Nat) (g : Nat → Bool) (hL : L ≤ 20000) : ∀ b1 s1 b2 s2 w, BS w b1 s1 L g → BS w b2 s2 L g → Calls Try.prog 63 #[.pointer (some ⟨b1, 0, none⟩), .pointer (some ⟨b2, 0, none⟩)] w fun e w' => e = .returned (.bool true) ∧ Ch S0 w w' := fun b1 s1 b2 s2 w h1 h2 => by
  refine (equal_len b1 s1 b2 s2 L g g w h1 h2 (by omega)).mono ?_
  rintro e w' ⟨r, rfl, hr, hC⟩
  have : r = true := hr.2 fun _ _ => rfl
  subst this
  exact ⟨rfl, hC⟩
theorem equal_diff (L1 L2 : Nat) (g1 g2 : Nat → Bool) (hL : L1 ≤ 20000) (hd : L1 ≠ L2 ∨ ∃ k, k < L1 ∧ g1 k ≠ g2 k) : ∀ b1 s1 b2 s2 w, BS w b1 s1 L1 g1 → BS w b2 s2 L2 g2 → Calls Try.prog 63 #[.pointer (some ⟨b1, 0, none⟩), .pointer (some ⟨b2, 0, none⟩)] w fun e w' => e = .returned (.bool false) ∧ Ch S0 w w' := fun b1 s1 b2 s2 w h1 h2 => by
  by_cases hLL : L1 = L2
  · subst hLL
    obtain ⟨k, hk, hg⟩ := hd.resolve_left (fun h => h rfl)
    refine (equal_len b1 s1 b2 s2 L1 g1 g2 w h1 h2 (by omega)).mono ?_
    rintro e w' ⟨r, rfl, hr, hC⟩
    have : r = false := by
      cases r
      · rfl
      · exfalso
        have h := hr.1 rfl (k / 64) (by unfold nw; omega)
        have e1 := Bit.wd_test g1 (k / 64) (k % 64)
        have e2 := Bit.wd_test g2 (k / 64) (k % 64)
        rw [show 64 * (k / 64) + k % 64 = k from by omega] at e1 e2
        have h64 : decide (k % 64 < 64) = true := by simp; omega
        rw [h64, Bool.true_and] at e1 e2
        exact hg (by rw [← e1, ← e2, h])
    subst this
    exact ⟨rfl, hC⟩
  · exact equal_no b1 s1 b2 s2 L1 L2 g1 g2 w h1 h2 hLL

end Go.Proofs.Ytgnhmgnpmbmjcaa
