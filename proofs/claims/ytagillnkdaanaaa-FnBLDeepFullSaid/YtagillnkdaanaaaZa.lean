/- WALKS: Equal of filters. -/
import Derived.Test.YtagillnkdaanaaaZ
namespace Go.Proofs.Ytagillnkdaanaaa
open Go.RowKit
set_option linter.unusedVariables false
set_option linter.unusedSimpArgs false

theorem equal_true (b1 s1 b2 s2 L : Nat) (g : Nat → Bool) (w : World) (h1 : BS w b1 s1 L g) (h2 : BS w b2 s2 L g) (hL : L ≤ 64000) :
    Calls Try.prog 37 #[.pointer (some ⟨b1, 0, none⟩), .pointer (some ⟨b2, 0, none⟩)] w fun e w' => e = .returned (.bool true) ∧ Ch S0 w w' :=
  (equal_len b1 s1 b2 s2 L g g w h1 h2 hL).mono fun e w' ⟨r, he, hr, hc⟩ => ⟨by rw [he, hr.2 (fun _ _ => rfl)], hc⟩

set_option maxRecDepth 100000 in
set_option maxHeartbeats 2000000 in
theorem fequal_true (f1 b1 s1 f2 b2 s2 M K n : Nat) (g : Nat → Bool) (w : World) (h1 : Fl w f1 b1 s1 M K n g) (h2 : Fl w f2 b2 s2 M K n g) (hn : n ≤ 1000) :
    Calls Try.prog 21 #[.pointer (some ⟨f1, 0, none⟩), .pointer (some ⟨f2, 0, none⟩)] w fun e w' => e = .returned (.bool true) ∧ Ch S0 w w' := by
  have x0 := h1.blk.cell 0
  have x1 := h1.blk.cell 1
  have x2 := h1.blk.cell 2
  have y0 := h2.blk.cell 0
  have y1 := h2.blk.cell 1
  have y2 := h2.blk.cell 2
  simp only [List.getElem?_toArray, List.getElem?_cons_zero, List.getElem?_cons_succ] at x0 x1 x2 y0 y1 y2
  have H1 := Lib.hid h1
  have H2 := Lib.hid h2
  have hL : 64 * n ≤ 64000 := by omega
  clear h1 h2
  go_enter Try.func21, Try.ntmps21
  go_wp2_with fail
  go_region_held3 (fun w' => w'.cell? ⟨f1, 0, none⟩ = some (.int .u64 (M : Nat)) ∧ w'.cell? ⟨f1, 1, none⟩ = some (.int .u64 (K : Nat)) ∧ w'.cell? ⟨f1, 2, none⟩ = some (.pointer (some ⟨b1, 0, none⟩)) ∧ w'.cell? ⟨f2, 0, none⟩ = some (.int .u64 (M : Nat)) ∧ w'.cell? ⟨f2, 1, none⟩ = some (.int .u64 (K : Nat)) ∧ w'.cell? ⟨f2, 2, none⟩ = some (.pointer (some ⟨b2, 0, none⟩)))
    (first | ((try dsimp only); (repeat' apply And.intro) <;> assumption) | (go_keep; done))
    (first
      | (go_at_call 37
         (with_reducible refine (equal_true b1 s1 b2 s2 (64 * n) g _ (BS.keep (S := S0) H1.out.bs (by first | exact Ch.refl S0 _ | exact (Ch.refl S0 _).drew | exact ((Ch.refl S0 _).drew).drew | exact Ch.drewQ _ _) (fun h => h) (fun h => h)) (BS.keep (S := S0) H2.out.bs (by first | exact Ch.refl S0 _ | exact (Ch.refl S0 _).drew | exact ((Ch.refl S0 _).drew).drew | exact Ch.drewQ _ _) (fun h => h) (fun h => h)) hL).mono ?_)
         rintro e w1 ⟨rfl, hC⟩
         have hC1 : Ch S0 w w1 := Ch.trans (by first | exact Ch.refl S0 _ | exact (Ch.refl S0 _).drew | exact ((Ch.refl S0 _).drew).drew | exact Ch.drewQ _ _) hC
         have HC := Lib.hid hC1
         have q1 := H1.out.blk.keep hC1 (fun h => h)
         have q2 := H2.out.blk.keep hC1 (fun h => h)
         clear hC hC1 x0 x1 x2 y0 y1 y2
         have x0 := q1.cell 0
         have x1 := q1.cell 1
         have x2 := q1.cell 2
         have y0 := q2.cell 0
         have y1 := q2.cell 1
         have y2 := q2.cell 2
         simp only [List.getElem?_toArray, List.getElem?_cons_zero, List.getElem?_cons_succ] at x0 x1 x2 y0 y1 y2
         clear q1 q2))
  all_goals
    go_wp2_with fail
    go_ret
    exact ⟨rfl, HC.out.trans (by first | exact Ch.refl S0 _ | exact (Ch.refl S0 _).drew | exact ((Ch.refl S0 _).drew).drew | exact Ch.drewQ _ _)⟩
end Go.Proofs.Ytagillnkdaanaaa
