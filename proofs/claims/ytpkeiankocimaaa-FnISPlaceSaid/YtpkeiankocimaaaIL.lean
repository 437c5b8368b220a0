/- WALK: FnISPlace. -/
import Derived.Test.YtpkeiankocimaaaIA
import Derived.Test.YtpkeiankocimaaaIC
namespace Go.Proofs.Ytpkeiankocimaaa
open Go.RowKit Go.Sort
set_option linter.unusedVariables false
set_option linter.unusedSimpArgs false

theorem compact_pos {zs : List Int} (h : 0 < zs.length) : 0 < (Lib.compact zs).length := by
  rcases Nat.eq_zero_or_pos (Lib.compact zs).length with e | e
  · exfalso
    have e0 : Lib.compact zs = [] := List.eq_nil_of_length_eq_zero e
    unfold Lib.compact at e0
    have hm : zs.length = (zs.length - 1) + 1 := by omega
    have : ∀ m, Lib.compactUpTo zs.toArray (m + 1) ≠ [] := by
      intro m
      induction m with
      | zero =>
        rw [Lib.compactUpTo_succ, Lib.keeps_lt_one zs.toArray 0 (by omega)]
        simp
      | succ m ih =>
        rw [Lib.compactUpTo_succ]
        simp [ih]
    rw [hm] at e0
    exact this _ e0
  · exact e

set_option maxRecDepth 100000 in
set_option maxHeartbeats 4000000 in
theorem place_small (A : Option Addr) (n c : Nat) (xs : List Int) (x : Int) (w : World) (hx : xs.length = n) (hn : n ≤ 2147483647) (hA : Rd w A (sv xs)) (h1 : is16 xs) (hk : -32768 ≤ x) (hk2 : x ≤ 32767) :
    Calls Try.prog 3 #[.slice A n c, .int .i16 x] w fun r w' => r = .returned (.bool true) ∧ Ch S0 w w' := by
  have HX := Lib.hid hx
  have HA := Lib.hid hA
  have H16 := Lib.hid h1
  clear hx hA h1
  have hni : ¬ (2147483647 : Int) < (n : Nat) := by omega
  cases hf : few30 n
  · have HF := Lib.hid hf
    clear hf
    go_enter Try.func3, Try.ntmps3
    go_wp2_with fail
    refine (dxFew_any A n c _ hn).mono ?_
    rintro r w1 ⟨rfl, rfl⟩
    rw [HF.out]
    go_wp2_with fail
    go_ret
    exact ⟨rfl, Ch.refl _ _⟩
  · have HF := Lib.hid hf
    have hfw : 0 < n ∧ n ≤ 30 := by simpa [few30] using hf
    obtain ⟨h0, h30⟩ := hfw
    clear hf
    have hsl : (srt xs).length = n := by rw [srt_len, HX.out]
    obtain ⟨s, hs⟩ : ∃ s, s = Lib.compact (srt xs) := ⟨_, rfl⟩
    have hsp : s.Pairwise (· < ·) := by rw [hs]; exact compact_lt _ (srt_sorted xs)
    have hs0 : 0 < s.length := by rw [hs]; exact compact_pos (by omega)
    have hs30 : s.length ≤ 30 := by rw [hs]; have := Lib.compact_length_le (srt xs); omega
    obtain ⟨m, hm⟩ : ∃ m, s.length = m := ⟨_, rfl⟩
    rw [hm] at hs0 hs30
    obtain ⟨t, ht⟩ : ∃ t, t = insAt s x := ⟨_, rfl⟩
    obtain ⟨k, hkk⟩ : ∃ k, k = less s x := ⟨_, rfl⟩
    obtain ⟨f1, f2, f3, f4⟩ := ins_facts s x hsp
    rw [← ht, ← hkk] at f1 f2 f3
    rw [← ht] at f4
    obtain ⟨l, hl⟩ : ∃ l, t.length = l := ⟨_, rfl⟩
    have hkl : k < l := by rw [← hl]; exact (List.getElem?_eq_some_iff.1 f1).1
    have hl31 : l ≤ 31 := by
      rcases insAt_len s x with e | e <;> (rw [← ht, hl, hm] at e; omega)
    have hkli : (k : Int) < (l : Nat) := by omega
    have hk0 : (0 : Int) ≤ (k : Nat) := by omega
    have hxx : (x == x) = true := by simp
    have hkk2 : ((k : Int) == (k : Nat)) = true := by simp
    have hk1 : (((k + 1 : Nat) : Int) == (k : Nat) + 1) = true := by simp
    have HSL := Lib.hid hsl
    have HS := Lib.hid hs
    have HSP := Lib.hid hsp
    have HM := Lib.hid hm
    have HT := Lib.hid ht
    have HK := Lib.hid hkk
    have HL := Lib.hid hl
    have F1 := Lib.hid f1
    have F2 := Lib.hid f2
    have F3 := Lib.hid f3
    have F4 := Lib.hid f4
    clear hsl hs hsp hm ht hkk hl f1 f2 f3 f4
    go_enter Try.func3, Try.ntmps3
    go_wp2_with fail
    refine (dxFew_any A n c _ hn).mono ?_
    rintro r w1 ⟨rfl, rfl⟩
    rw [HF.out]
    go_wp2_with fail
    refine (longs_any A n c xs _ HX.out (by omega) HA.out H16.out).mono ?_
    rintro r w2 ⟨v, rfl, hO, hC⟩
    have HO := Lib.hid hO
    have HC := Lib.hid hC
    clear hO hC
    go_wp2_with fail
    refine (sort64 _ n v xs _ HX.out (by omega) h0 HO.out).mono ?_
    rintro r w3 ⟨rfl, hO3, hC3⟩
    have HO3 := Lib.hid hO3
    have HC3 := Lib.hid (HC.out.trans' hC3 (fun j hj e => absurd (own_lt HO.out j e).1 (by omega)))
    clear hO3 hC3
    go_wp2_with fail
    refine (compact64 _ n v (srt xs) _ HSL.out (by omega) h0 HO3.out).mono ?_
    rintro r w4 ⟨A4, c4, rfl, hR4, hC4⟩
    rw [← HS.out] at hR4 ⊢
    rw [HM.out]
    have HR4 := Lib.hid hR4
    have HC4 := Lib.hid (HC3.out.trans' hC4 (fun j hj e => absurd (own_lt HO3.out j e).1 (by omega)))
    clear hR4 hC4
    go_wp2_with fail
    refine (isSearch_any A4 m c4 s x _ HM.out hs0 (by omega) HSP.out HR4.out).mono ?_
    rintro r w5 ⟨rfl, hC5⟩
    rw [← HK.out]
    have HC5 := Lib.hid (HC4.out.trans hC5)
    have HR5 := Lib.hid (HR4.out.keep0 hC5)
    clear hC5
    go_wp2_with fail
    refine (isInsert_any A4 m c4 s x _ HM.out hs0 (by omega) HSP.out HR5.out).mono ?_
    rintro r w6 ⟨A6, m6, c6, rfl, hm6, hR6, hC6⟩
    rw [← HT.out] at hm6 hR6
    obtain rfl : m6 = l := hm6.trans HL.out
    obtain ⟨b6, o6, e6, d6⟩ := hR6.at (iv_at F1.out)
    subst e6
    have HR6 := Lib.hid hR6
    have HC6 := Lib.hid (HC5.out.trans hC6)
    clear hm6 hR6 hC6
    go_wp2_with fail
    refine (isSearch_any _ m6 c6 t x _ HL.out (by omega) (by omega) F4.out HR6.out).mono ?_
    rintro r w7 ⟨rfl, hC7⟩
    rw [F2.out]
    have HC7 := Lib.hid (HC6.out.trans hC7)
    have HR7 := Lib.hid (HR6.out.keep0 hC7)
    clear hC7
    go_wp2_with fail
    refine (isSearch_any _ m6 c6 t (x + 1) _ HL.out (by omega) (by omega) F4.out HR7.out).mono ?_
    rintro r w8 ⟨rfl, hC8⟩
    rw [F3.out]
    have HC8 := Lib.hid (HC7.out.trans hC8)
    clear hC8
    go_wp2_with fail
    go_ret
    exact ⟨rfl, HC8.out⟩
end Go.Proofs.Ytpkeiankocimaaa
