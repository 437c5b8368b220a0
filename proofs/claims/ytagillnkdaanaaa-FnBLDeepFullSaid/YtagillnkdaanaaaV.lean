/- WALKS: Merge of filters. -/
import Derived.Test.YtagillnkdaanaaaU
namespace Go.Proofs.Ytagillnkdaanaaa
open Go.RowKit
set_option linter.unusedVariables false
set_option linter.unusedSimpArgs false

set_option maxRecDepth 100000 in
set_option maxHeartbeats 2000000 in
theorem merge_any (f1 b1 s1 f2 b2 s2 M K n : Nat) (g1 g2 : Nat → Bool) (w : World) (h1 : Fl w f1 b1 s1 M K n g1) (h2 : Fl w f2 b2 s2 M K n g2) (hn : 0 < n) (hn2 : n ≤ 1000) (d1 : b1 ≠ b2) (d2 : s1 ≠ s2) (d3 : b1 ≠ s2) (d4 : s1 ≠ b2) (d5 : f2 ≠ b1) (d6 : f2 ≠ s1) :
    Calls Try.prog 15 #[.pointer (some ⟨f1, 0, none⟩), .pointer (some ⟨f2, 0, none⟩)] w fun e w' => e = .returned Value.nilIface ∧ Fl w' f1 b1 s1 M K n (fun k => g1 k || g2 k) ∧ Ch (S2 b1 s1) w w' := by
  have x0 := h1.blk.cell 0
  have x1 := h1.blk.cell 1
  have x2 := h1.blk.cell 2
  have y0 := h2.blk.cell 0
  have y1 := h2.blk.cell 1
  have y2 := h2.blk.cell 2
  simp only [List.getElem?_toArray, List.getElem?_cons_zero, List.getElem?_cons_succ] at x0 x1 x2 y0 y1 y2
  have H1 := Lib.hid h1
  have H2 := Lib.hid h2
  clear h1 h2
  go_enter Try.func15, Try.ntmps15
  go_wp2_with fail
  go_quiet (fail)
  go_wp2_with fail
  go_quiet (fail)
  go_wp2_with fail
  go_region_held3 (fun w' => w'.cell? ⟨f1, 2, none⟩ = some (.pointer (some ⟨b1, 0, none⟩)) ∧ w'.cell? ⟨f2, 2, none⟩ = some (.pointer (some ⟨b2, 0, none⟩)))
    (first | ((try dsimp only); (repeat' apply And.intro) <;> assumption) | (go_keep; done))
    (first
      | (go_at_call 25
         (with_reducible refine (ipu_any b1 s1 b2 s2 n g1 g2 _ (BS.keep (S := S0) H1.out.bs (by first | exact Ch.refl S0 _ | exact (Ch.refl S0 _).drew | exact ((Ch.refl S0 _).drew).drew | exact Ch.drewQ _ _ | exact (Ch.drewQ _ _).drew | exact ((Ch.drewQ _ _).drew).drew | exact ((Ch.drewQ _ _).trans (Ch.drewQ _ _)).drew) (fun h => h) (fun h => h)) (BS.keep (S := S0) H2.out.bs (by first | exact Ch.refl S0 _ | exact (Ch.refl S0 _).drew | exact ((Ch.refl S0 _).drew).drew | exact Ch.drewQ _ _ | exact (Ch.drewQ _ _).drew | exact ((Ch.drewQ _ _).drew).drew | exact ((Ch.drewQ _ _).trans (Ch.drewQ _ _)).drew) (fun h => h) (fun h => h)) hn hn2 d1 d2 d3 d4).mono ?_)
         rintro e w1 ⟨rfl, hB, hC⟩
         have hC1 : Ch (S2 b1 s1) w w1 := (Ch.mono (S := S0) (by first | exact Ch.refl S0 _ | exact (Ch.refl S0 _).drew | exact ((Ch.refl S0 _).drew).drew | exact Ch.drewQ _ _ | exact (Ch.drewQ _ _).drew | exact ((Ch.drewQ _ _).drew).drew | exact ((Ch.drewQ _ _).trans (Ch.drewQ _ _)).drew) (fun _ _ h => h.elim)).trans hC
         have hne := H1.out.ne
         have HF := Lib.hid (show Fl w1 f1 b1 s1 M K n (fun k => g1 k || g2 k) from ⟨H1.out.blk.keep hC1 (fun hs => by rcases hs with hs | hs; exact hne.1 hs; exact hne.2 hs), hB, hne⟩)
         have HC := Lib.hid hC1
         have q3 := (H2.out.blk.keep hC1 (fun hs => by rcases hs with hs | hs; exact d5 hs; exact d6 hs)).cell 2
         clear hB hC hC1 hne
         have q2 := HF.out.blk.cell 2
         simp only [List.getElem?_toArray, List.getElem?_cons_zero, List.getElem?_cons_succ] at q2 q3
         clear x0 x1 x2 y0 y1 y2))
  go_wp2_with fail
  go_ret
  exact ⟨rfl, HF.out.keep (S := S0) (by first | exact Ch.refl S0 _ | exact (Ch.refl S0 _).drew | exact ((Ch.refl S0 _).drew).drew | exact Ch.drewQ _ _ | exact (Ch.drewQ _ _).drew | exact ((Ch.drewQ _ _).drew).drew | exact ((Ch.drewQ _ _).trans (Ch.drewQ _ _)).drew) (fun h => h) (fun h => h) (fun h => h), HC.out.trans (Ch.mono (S := S0) (by first | exact Ch.refl S0 _ | exact (Ch.refl S0 _).drew | exact ((Ch.refl S0 _).drew).drew | exact Ch.drewQ _ _ | exact (Ch.drewQ _ _).drew | exact ((Ch.drewQ _ _).drew).drew | exact ((Ch.drewQ _ _).trans (Ch.drewQ _ _)).drew) (fun _ _ h => h.elim))⟩
end Go.Proofs.Ytagillnkdaanaaa
