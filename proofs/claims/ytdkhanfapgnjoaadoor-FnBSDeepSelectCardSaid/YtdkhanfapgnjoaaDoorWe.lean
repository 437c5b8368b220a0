/- WALKS: the thin package's functions on single bitsets. -/
import Derived.Test.YtdkhanfapgnjoaaDoorWd
namespace Go.Proofs.YtdkhanfapgnjoaaDoor
open Go.RowKit
set_option linter.unusedVariables false
set_option linter.unusedSimpArgs false

set_option maxRecDepth 100000 in
set_option maxHeartbeats 400000 in
theorem bsset_any {base : Nat} (v : Value) (L : Nat) (g : Nat → Bool) (w : World) (h : IsB base w v L g) (i : Nat) (x : Int) (hx : x = i)  (hi : i ≤ 10000) :
    Calls Tryd.prog 5 #[v, .int .u64 x] w fun e w' => ∃ v', e = .returned v' ∧ IsB w.heap.size w' v' (max L (i + 1)) (Bit.put g i true) ∧ Ch S0 w w' := by
  subst hx
  obtain ⟨A, n, cap, rfl⟩ := h.shape
  have hL := h.small
  have hch : Ch S0 w ((w.alloc (Obj.cells #[.int .u64 L, .slice A n cap] 25)).alloc (Obj.cells #[Value.int .u64 0, Value.slice none 0 0] 25)) := ((Ch.refl _ _).alloc _).alloc _
  have hr : Blk ((w.alloc (Obj.cells #[.int .u64 L, .slice A n cap] 25)).alloc (Obj.cells #[Value.int .u64 0, Value.slice none 0 0] 25)) (w.heap.size + 1) #[Value.int .u64 0, Value.slice none 0 0] := by
    have := Blk.new (w.alloc (Obj.cells #[.int .u64 L, .slice A n cap] 25)) #[Value.int .u64 0, Value.slice none 0 0] 25
    simpa using this
  have H := Lib.hid h
  have HR := Lib.hid hr
  have HC := Lib.hid hch
  clear h hr hch
  go_enter Tryd.func5, Tryd.ntmps5
  go_wp2_with fail
  refine (set64_any _ L g _ (H.out.keep HC.out)).mono ?_
  rintro e w1 ⟨b, sb, rfl, hB, hb1, hb2, hC1⟩
  simp at hb1 hb2
  have HB := Lib.hid hB
  have HC1 := Lib.hid hC1
  clear hB hC1
  go_wp2_with fail
  refine (set_any b sb L i g _ HB.out (by omega) (by omega) _ rfl).mono ?_
  rintro e w2 ⟨rfl, sb', hB2, hs2, hC2⟩
  have hC02 : Ch S0 w w2 := (HC.out.trans HC1.out).trans' hC2 (fun k hk hs => by rcases hs with e | e <;> omega)
  have hr2 := (HR.out.keep HC1.out (fun h => h)).keep hC2 (by intro hs; rcases hs with e | e <;> omega)
  have HB2 := Lib.hid hB2
  have HC2 := Lib.hid hC02
  have HR2 := Lib.hid hr2
  have hsz := hr2.lt
  clear hB2 hC2 hC02 hr2 hs2
  go_wp2_with fail
  refine (said64_any b sb' (max L (i + 1)) _ _ HB2.out (by omega)).mono ?_
  rintro e w3 ⟨v', rfl, hV, hC3⟩
  obtain ⟨A', n', cap', rfl⟩ := hV.shape
  have hr3 := HR2.out.keep hC3 (fun h => h)
  have c0 : w3.cell? ⟨w.heap.size + 1, 0, none⟩ = some (.int .u64 0) := by rw [hr3.cell]; rfl
  have c1 : w3.cell? ⟨w.heap.size + 1, 1, none⟩ = some (.slice none 0 0) := by rw [hr3.cell]; rfl
  have f0 := hr3.free 0
  have f1 := hr3.free 1
  have hfin := (hV.set (a := ⟨w.heap.size + 1, 0, none⟩) (by simp; omega) (.int .u64 (max L (i + 1) : Nat))).set (a := ⟨w.heap.size + 1, 1, none⟩) (by simp; omega) (.slice A' n' cap')
  have hch3 := ((HC2.out.trans hC3).setCell ⟨w.heap.size + 1, 0, none⟩ (by simp; omega) (.int .u64 (max L (i + 1) : Nat))).setCell ⟨w.heap.size + 1, 1, none⟩ (by simp; omega) (.slice A' n' cap')
  have HF := Lib.hid (hfin.mono (base' := w.heap.size) (by omega))
  have HCF := Lib.hid hch3
  clear hV hC3 hr3 hfin hch3
  go_wp2
  exact bodyPost_ret (v := .agg #[.int .u64 (max L (i + 1) : Nat), .slice A' n' cap']) (by simp [results, Tryd.results5, go_sem, c0, c1, f0, f1]) rfl ⟨_, rfl, HF.out, HCF.out⟩

end Go.Proofs.YtdkhanfapgnjoaaDoor
