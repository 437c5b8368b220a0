/- WALK: FnFHTurned. -/
import Derived.Test.YtbfcnimebdoagaaKA
import Derived.Test.YtbfcnimebdoagaaKB
namespace Go.Proofs.Ytbfcnimebdoagaa
open Go.RowKit
set_option linter.unusedVariables false
set_option linter.unusedSimpArgs false

theorem is16_abs {xs : List Int} (h : is16 xs) : ∀ x ∈ xs, x.natAbs < 2 ^ 53 := fun x hx => by
  have := h x hx
  omega
theorem is16_rev {xs : List Int} (h : is16 xs) : is16 xs.reverse := fun x hx => h x (List.mem_reverse.1 hx)
theorem hst_enqOf (w : World) (xs : List Int) : ∀ s ∈ enqOf xs, HSt w s := fun s hs => by
  obtain ⟨x, _, rfl⟩ := List.mem_map.1 hs
  exact hst_enq w x
/-- Enqueue, and take all out: the sorted list. -/
theorem df_sorted {w : World} {A : Option Addr} {n c : Nat} {xs : List Int} (hx : xs.length = n) (hn : n ≤ 1000) (hA : Rd w A (hpCells (enqOf xs))) (hsh : (n = 0 ∧ A = none ∧ c = 0) ∨ 0 < n) (h16 : ∀ x ∈ xs, x.natAbs < 2 ^ 53) :
    Calls Try.prog 12 #[.slice A n c, .int .i64 n] w fun r w' => (∃ v, r = .returned (.tuple #[v, .bool true]) ∧ w'.ownsRow w.heap.size 3 1 v n (iv (srt xs))) ∧ Ch S0 w w' := by
  subst hx
  refine (dfOut_any A xs.length c xs.length (enqOf xs) w (enqOf_len xs) hn hn hA hsh (hst_enqOf w xs) (plain_fine xs (by omega) h16) (fun ds B cl h => (plain_out xs h).2)).mono ?_
  rintro r w' ⟨⟨v, ds, B, cl, h1, h2, h3⟩, h4⟩
  rw [(plain_out xs h2).1] at h3
  exact ⟨⟨v, h1, h3⟩, h4⟩
/-- Where a row of steps lies. -/
theorem own_shape {w : World} {base E sz n : Nat} {v : Value} {xs : List Value} (h : w.ownsRow base E sz v n xs) : ∃ A c, v = .slice A n c ∧ Rd w A xs ∧ ((n = 0 ∧ A = none ∧ c = 0) ∨ 0 < n ∨ (n = 0 ∧ ∃ b, A = some ⟨b, 0, none⟩)) := by
  obtain ⟨h1, h2⟩ := h
  have h := own_rd (⟨h1, h2⟩ : w.ownsRow base E sz v n xs)
  obtain ⟨A, c, e, hr, _, _, hA, _⟩ := h
  rcases h2 with ⟨rfl, rfl⟩ | ⟨g, cap, cur, rfl, _⟩
  · cases e
    exact ⟨none, 0, rfl, hr, Or.inl ⟨rfl, rfl, rfl⟩⟩
  · cases e
    refine ⟨_, c, rfl, hr, ?_⟩
    rcases Nat.eq_zero_or_pos n with h | h
    · exact Or.inr (Or.inr ⟨h, g, rfl⟩)
    · exact Or.inr (Or.inl h)
set_option maxRecDepth 100000 in
set_option maxHeartbeats 8000000 in
theorem turned_small (A : Option Addr) (n c : Nat) (xs : List Int) (w : World) (hx : xs.length = n) (hn : n ≤ 2147483647) (hA : Rd w A (sv xs)) (h1 : is16 xs) :
    Calls Try.prog 5 #[.slice A n c] w fun r w' => r = .returned (.bool true) ∧ Ch S0 w w' := by
  have HX := Lib.hid hx
  have HA := Lib.hid hA
  have H16 := Lib.hid h1
  clear hx hA h1
  have hni : ¬ (2147483647 : Int) < (n : Nat) := by omega
  cases hf : few30 n
  · have HF := Lib.hid (dxFew_any A n c w hn)
    rw [hf] at HF
    clear hf
    go_enter Try.func5, Try.ntmps5
    go_wp2_with fail
    refine HF.out.mono ?_
    rintro r w1 ⟨rfl, e1⟩
    rw [e1]
    clear e1
    go_wp2_with fail
    go_ret
    exact ⟨rfl, Ch.refl _ _⟩
  have HF := Lib.hid (dxFew_any A n c w hn)
  rw [hf] at HF
  obtain ⟨h0, h30⟩ : 0 < n ∧ n ≤ 30 := by simpa [few30] using hf
  clear hf
  go_enter Try.func5, Try.ntmps5
  go_wp2_with fail
  refine HF.out.mono ?_
  rintro r w1 ⟨rfl, e1⟩
  rw [e1]
  clear e1
  go_wp2_with fail
  refine (dfEnq_any A n c xs _ HX.out (by omega) HA.out H16.out).mono ?_
  rintro r w2 ⟨v, rfl, hO, hC⟩
  obtain ⟨A2, c2, rfl, hR, hsh⟩ := own_shape hO
  have hd := df_sorted (c := c2) HX.out (by omega) hR (by omega) (is16_abs H16.out)
  have HD := Lib.hid hd
  have HC2 := Lib.hid hC
  clear hO hC hR hsh hd
  go_wp2_with fail
  refine HD.out.mono ?_
  rintro r w3 ⟨⟨v, rfl, hO⟩, hC⟩
  obtain ⟨A3, c3, rfl, hR3, _⟩ := own_shape hO
  have HR3 := Lib.hid hR3
  have HC3 := Lib.hid (HC2.out.trans hC)
  clear hO hC hR3
  go_wp2_with fail
  refine (turned_any A n c xs _ HX.out h0 (by omega) (HA.out.keep0 HC3.out)).mono ?_
  rintro r w4 ⟨v, rfl, hO, hC⟩
  obtain ⟨A4, c4, rfl, hR, _⟩ := own_shape hO
  have HR3 := Lib.hid (HR3.out.keep0 hC)
  have HC4 := Lib.hid (HC3.out.trans hC)
  have HR4 := Lib.hid hR
  clear hO hC hR
  go_wp2_with fail
  refine (dfEnq_any A4 n c4 xs.reverse _ (by rw [List.length_reverse]; exact HX.out) (by omega) HR4.out (is16_rev H16.out)).mono ?_
  rintro r w5 ⟨v, rfl, hO, hC⟩
  obtain ⟨A5, c5, rfl, hR, hsh⟩ := own_shape hO
  have hd := df_sorted (c := c5) (show xs.reverse.length = n by rw [List.length_reverse]; exact HX.out) (by omega) hR (by omega) (is16_abs (is16_rev H16.out))
  have HD5 := Lib.hid hd
  have HR3 := Lib.hid (HR3.out.keep0 hC)
  have HC5 := Lib.hid (HC4.out.trans hC)
  clear hO hC hR hsh hd
  go_wp2_with fail
  refine HD5.out.mono ?_
  rintro r w6 ⟨⟨v, rfl, hO⟩, hC⟩
  obtain ⟨A6, c6, rfl, hR6, _⟩ := own_shape hO
  rw [srt_eq (List.reverse_perm xs)] at hR6
  have HR3 := Lib.hid (HR3.out.keep0 hC)
  have HR6 := Lib.hid hR6
  have HC6 := Lib.hid (HC5.out.trans hC)
  have HL : Hid ((srt xs).length = n) := Lib.hid (by rw [srt_len]; exact HX.out)
  clear hO hC hR6
  go_wp2_with fail
  refine (equal_int A3 A6 n n c3 c6 (srt xs) (srt xs) _ HL.out HL.out (by omega) (by omega) HR3.out HR6.out).mono ?_
  rintro r w7 ⟨rfl, hC⟩
  have e : decide (srt xs = srt xs) = true := by simp
  rw [e]
  have HC7 := Lib.hid (HC6.out.trans hC)
  clear e hC
  go_wp2_with fail
  go_ret
  exact ⟨rfl, HC7.out⟩
end Go.Proofs.Ytbfcnimebdoagaa
