/- WALK: FnPQUnlike. (Printed by mkL.py.) -/
import Derived.Test.YtpkeiankocimaaaDoorK3
namespace Go.Proofs.YtpkeiankocimaaaDoor
open Go.RowKit
set_option linter.unusedVariables false
set_option linter.unusedSimpArgs false

set_option maxRecDepth 100000 in
set_option maxHeartbeats 8000000 in
theorem unlike_small (A : Option Addr) (n c : Nat) (xs : List Int) (u : Nat) (w : World) (hx : xs.length = n) (hn : n ≤ 2147483647) (hA : Rd w A (sv xs)) (h1 : is16 xs) (hu : u < 256) :
    Calls Tryd.prog 5 #[.slice A n c, .int .u8 u] w fun r w' => r = .returned (.bool true) ∧ Ch S0 w w' := by
  have HX := Lib.hid hx
  have HA := Lib.hid hA
  have H16 := Lib.hid h1
  clear hx hA h1
  have hni : ¬ (2147483647 : Int) < (n : Nat) := by omega
  cases hf : few30 n
  · have HF := Lib.hid hf
    clear hf
    go_enter Tryd.func5, Tryd.ntmps5
    go_wp2_with fail
    refine (dxFew_any A n c _ hn).mono ?_
    rintro r w1 ⟨rfl, rfl⟩
    rw [HF.out]
    go_wp2_with fail
    go_ret
    exact ⟨rfl, Ch.refl _ _⟩
  · have HF := Lib.hid hf
    have hfw : 0 < n ∧ n ≤ 30 := by simpa [few30] using hf
    obtain ⟨h0, h30⟩ := hfw
    clear hf
    obtain ⟨its, hits⟩ : ∃ its, its = elems xs n := ⟨_, rfl⟩
    have HIts := Lib.hid hits
    have HIl : Hid (its.length = n) := Lib.hid (by rw [hits, elems_len])
    have HNd : Hid (its.Nodup) := Lib.hid (by rw [hits]; exact elems_nodup xs n)
    clear hits
    obtain ⟨h, hh⟩ : ∃ h, h = u % 65 := ⟨_, rfl⟩
    have hhl : h ≤ 64 := by omega
    have hhi : (u : Int) % 65 = (h : Nat) := by omega
    have HHi := Lib.hid hhi
    clear hh
    go_enter Tryd.func5, Tryd.ntmps5
    go_wp2_with fail
    refine (dxFew_any A n c _ hn).mono ?_
    rintro r w1 ⟨rfl, rfl⟩
    rw [HF.out]
    go_wp2_with fail
    refine (items_any A n c xs _ HX.out (by omega) HA.out H16.out).mono ?_
    rintro r w2 ⟨v, rfl, hO, hC⟩
    rw [← HIts.out] at hO
    obtain ⟨bi1, ci1, rfl, hR, hnc1, _, _⟩ := row_rd hO h0
    have HI1 := Lib.hid hR
    have HCw2 := Lib.hid hC
    clear hO hR hC
    go_wp2_with fail
    refine (queue_any bi1 0 n ci1 its _ HIl.out h0 hnc1 (by omega) HI1.out).mono ?_
    rintro r w3 ⟨A3, m3, c3, rfl, hm3, hR3, hC3⟩
    have HM3 := Lib.hid hm3
    have HR3 := Lib.hid hR3
    have HCw3 := Lib.hid (HCw2.out.trans hC3)
    clear hm3 hR3 hC3
    go_wp2_with fail
    refine (items_any A n c xs _ HX.out (by omega) (HA.out.keep0 HCw3.out) H16.out).mono ?_
    rintro r w4 ⟨v, rfl, hO, hC⟩
    rw [← HIts.out] at hO
    obtain ⟨bi2, ci2, rfl, hR, hnc2, _, _⟩ := row_rd hO h0
    have HI2 := Lib.hid hR
    have HCw4 := Lib.hid (HCw3.out.trans hC)
    have HR4 := Lib.hid (HR3.out.keep0 hC)
    clear hO hR hC
    go_wp2_with fail
    refine (puts_any bi2 0 n ci2 4 its _ HIl.out h0 hnc2 (by omega) (by omega) (by omega) HI2.out).mono ?_
    rintro r w5 ⟨⟨v, ss, m, rfl, hP, hm0, hmn⟩, hC⟩
    obtain ⟨bp, cp, rfl, hR, _, _, _⟩ := row_rd hP.own hm0
    have HP := Lib.hid hP
    have HRp := Lib.hid hR
    have HCw5 := Lib.hid (HCw4.out.trans hC)
    have hCx := hC
    have HR5 := Lib.hid (HR4.out.keep0 hC)
    clear hP hR hC hCx
    go_wp2_with fail
    refine (takes_any bp 0 m cp 1000 ss _ HP.out.len hm0 (by omega) HRp.out).mono ?_
    rintro r w6 ⟨v6, rfl, hO6, hC6⟩
    obtain ⟨b6, c6, rfl, hR6, _, _, _⟩ := row_rd hO6 (by omega)
    have HO6 := Lib.hid (HP.out.old.keep hC6 (fun _ h => h.elim)).none
    have HR6 := Lib.hid hR6
    have HR6q := Lib.hid (HR5.out.keep0 hC6)
    have HC6 := Lib.hid (HCw5.out.trans hC6)
    clear hO6 hR6 hC6
    obtain ⟨hf, hk⟩ := puts_take_one (dup := false) (s := tk 1000) HP.out.put HP.out.its (isGet_tk 1000) (by omega) (by rw [HIl.out]; exact h0) (by rw [HIl.out]; omega) (Or.inr HNd.out)
    have hg := got_any h (m + 1) c6 b6 0 false _ _ w6 (by omega) (by simp [HP.out.len]) (by omega) (by omega) HR6.out (fun s hs => by
      rcases List.mem_append.1 hs with hs | hs
      · exact HO6.out s hs
      · obtain rfl := List.mem_singleton.1 hs
        exact St1.tk _ _ _) hf hk (by rw [keys_srt_len, HIl.out]; omega)
    have HG := Lib.hid hg
    clear hf hk hg
    go_wp2_with fail
    try rw [HHi.out]
    refine HG.out.mono ?_
    rintro r w7 ⟨A7, m7, c7, rfl, hm7, hR7, hC7⟩
    have HM7 := Lib.hid hm7
    have HR7 := Lib.hid hR7
    have HR7q := Lib.hid (HR6q.out.keep0 hC7)
    have HC7 := Lib.hid (HC6.out.trans hC7)
    clear hm7 hR7 hC7
    have hm37 : m3 = m7 := by rw [← HM3.out, HM7.out]
    subst hm37
    go_wp2_with fail
    refine (equal_int A3 A7 m3 m3 c3 c7 _ _ _ HM3.out HM7.out (by have := HM3.out; rw [keys_srt_len, HIl.out] at this; omega) (by have := HM3.out; rw [keys_srt_len, HIl.out] at this; omega) HR7q.out HR7.out).mono ?_
    rintro r w8 ⟨rfl, hC8⟩
    have e : decide (srt (keys its) = srt (keys its)) = true := by simp
    rw [e]
    have HC8 := Lib.hid (HC7.out.trans hC8)
    clear e hC8
    go_wp2_with fail
    go_ret
    exact ⟨rfl, HC8.out⟩
end Go.Proofs.YtpkeiankocimaaaDoor
