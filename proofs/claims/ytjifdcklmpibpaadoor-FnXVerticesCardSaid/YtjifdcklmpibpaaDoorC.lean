/- addVertex of a new vertex. -/
import Derived.Test.YtjifdcklmpibpaaDoorB
import Derived.Test.YtjifdcklmpibpaaDoorS
import Derived.Maps.Own
namespace Go.Proofs.YtjifdcklmpibpaaDoor
open Go.RowKit
set_option linter.unusedVariables false
set_option linter.unusedSimpArgs false

set_option maxRecDepth 100000 in
theorem addv_new (g ob nv ne : Nat) (vs : Int → Option Nat) (adj : Int → Int → Bool) (deg : Int → Nat) (k : Int) (w : World) (h : GG w g ob vs adj deg nv ne) (hk : vs k = none) (hnv : nv < 1000000) :
    Calls Tryd.prog 38 #[.pointer (some ⟨g, 0, none⟩), .iface 3 (.int .i64 k)] w fun r w' => r = .returned (.tuple #[]) ∧ ∃ b, w.heap.size ≤ b ∧ GG w' g ob (fun x => if x = k then some b else vs x) adj deg (nv + 1) ne ∧ Ch (S2 g ob) w w' := by
  have HG := Lib.hid h
  have c0 := h.blk.cell 0
  simp only [List.getElem?_toArray, List.getElem?_cons_zero] at c0
  have hgl := h.blk.lt
  have hf : ((fun k => (vs k).map fun b => Value.map (some b)) k) = none := by simp [hk]
  have HM := Lib.hid (h.out.keep (w' := w.alloc (.map #[] 0)) ((MapKept.heap_alloc w _).2 ob h.out.lt))
  have HB := Lib.hid (h.blk.alloc (.map #[] 0))
  have HK := Lib.hid hk
  clear h hk
  go_enter Tryd.func38, Tryd.ntmps38
  go_wp2_with (first | (at_lookup; go_loud (refine wpList_ilook_ok _ rfl _ _ 65 rfl 68 ikey Tryd.underlying65 (zero68 _) ob nv _ rfl HG.out.out k rfl ?_; simp only [hf, Option.getD_none, Option.isSome_none])) | (at_mapUpdate; go_loud (refine wpList_istore _ rfl _ _ _ 65 rfl 68 ikey Tryd.underlying65 ob nv _ rfl HM.out k rfl (.map (some w.heap.size)) rfl ?_; intro w2 hI hgr hsz; have HI := Lib.hid hI; have HGr := Lib.hid hgr; have HB2 := Lib.hid (HB.out.keep (Ch.ofGrown hgr (S := fun b => some b = some ob) (fun b hb => hb.symm)) (fun e => HG.out.og (Option.some.inj e).symm)); have d1 := HB2.out.cell 1; have f1 := HB2.out.free 1; simp only [List.getElem?_toArray, List.getElem?_cons_succ, List.getElem?_cons_zero] at d1; clear hI hgr)))
  refine bodyPost_end (results_none rfl _ _ _) rfl ?_
  have hCa : Ch (S2 g ob) w w2 := (((Ch.refl S0 w).alloc (.map #[] 0)).mono (fun _ _ h => h.elim)).trans (Ch.ofGrown HGr.out (fun b hb => Or.inr (Option.some.inj hb).symm))
  have hC := hCa.setCell ⟨g, 1, none⟩ (fun _ => Or.inl rfl) (.int .i64 ((nv : Int) + 1))
  have hCs : ∀ b, b ≠ g → (w2.setCell ⟨g, 1, none⟩ (.int .i64 ((nv : Int) + 1))).heap[b]? = w2.heap[b]? := fun b hb => Below.heap_setCell _ _ _ _ hb
  have h := HG.out
  have hoo : w.heap.size ≠ ob := fun e => by have := h.out.lt; omega
  have hnew : IMap 3 .i64 (w2.setCell ⟨g, 1, none⟩ (.int .i64 ((nv : Int) + 1))) w.heap.size (fun _ => none) 0 :=
    ((IMap.made 3 .i64 w).keep (w' := w2) (HGr.out.block _ (by simp) (fun e => hoo (Option.some.inj e)))).keep (hCs _ (by omega))
  have hI := HI.out.keep (hCs ob h.og)
  refine ⟨rfl, w.heap.size, Nat.le_refl _, ⟨?_, ?_, fun x b hb => ?_, h.og, fun x b hb => ?_, fun x y b hx hy => ?_, fun x hx => ?_⟩, hC⟩
  · have h1 := HB2.out.set 1 (.int .i64 ((nv : Int) + 1))
    simpa using h1
  · have e : (fun x => (if x = k then some w.heap.size else vs x).map fun b => Value.map (some b)) = (fun y => if y = k then some (Value.map (some w.heap.size)) else Option.map (fun b => Value.map (some b)) (vs y)) := by
      funext x
      by_cases hx : x = k <;> simp [hx]
    rw [e]
    simpa [HK.out] using hI
  · by_cases hx : x = k
    · subst hx
      simp only [if_true, Option.some.injEq] at hb
      subst hb
      obtain ⟨n1, n2⟩ := h.no x HK.out
      rw [n2]
      simpa [n1] using hnew
    · simp only [hx, if_false] at hb
      have hlt := (h.inn x b hb).lt
      obtain ⟨a1, a2⟩ := h.ap x b hb
      exact (h.inn x b hb).keep (hC.block b hlt (fun e => e.elim a1 a2))
  · by_cases hx : x = k
    · simp only [hx, if_true, Option.some.injEq] at hb
      exact ⟨by omega, by omega⟩
    · simp only [hx, if_false] at hb
      exact h.ap x b hb
  · by_cases h1 : x = k <;> by_cases h2 : y = k
    · rw [h1, h2]
    · simp only [h1, h2, if_true, if_false, Option.some.injEq] at hx hy
      have := (h.inn y b hy).lt
      omega
    · simp only [h1, h2, if_true, if_false, Option.some.injEq] at hx hy
      have := (h.inn x b hx).lt
      omega
    · simp only [h1, h2, if_false] at hx hy
      exact h.inj x y b hx hy
  · by_cases h1 : x = k
    · simp [h1] at hx
    · simp only [h1, if_false] at hx
      exact h.no x hx
end Go.Proofs.YtjifdcklmpibpaaDoor
