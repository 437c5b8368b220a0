/- WALK: FnPQParts. (Printed by mkL.py.) -/
import Derived.Test.YtpkeiankocimaaaDoorK3
namespace Go.Proofs.YtpkeiankocimaaaDoor
open Go.RowKit
set_option linter.unusedVariables false
set_option linter.unusedSimpArgs false

set_option maxRecDepth 100000 in
set_option maxHeartbeats 8000000 in
theorem parts_small (A : Option Addr) (n c : Nat) (xs : List Int) (u : Nat) (w : World) (hx : xs.length = n) (hn : n ≤ 2147483647) (hA : Rd w A (sv xs)) (h1 : is16 xs) (hu : u < 256) :
    Calls Tryd.prog 4 #[.slice A n c, .int .u8 u] w fun r w' => r = .returned (.bool true) ∧ Ch S0 w w' := by
  have HX := Lib.hid hx
  have HA := Lib.hid hA
  have H16 := Lib.hid h1
  clear hx hA h1
  have hni : ¬ (2147483647 : Int) < (n : Nat) := by omega
  cases hf : few30 n
  · have HF := Lib.hid hf
    clear hf
    go_enter Tryd.func4, Tryd.ntmps4
    go_wp2_with fail
    refine (dxFew_any A n c _ hn).mono ?_
    rintro r w1 ⟨rfl, rfl⟩
    rw [HF.out]
    go_wp2_with fail
    go_ret
    exact ⟨rfl, Ch.refl _ _⟩
  · have HF := Lib.hid hf
    have hfw : 0 < n ∧ n ≤ 30 := by simpa [few30] using hf
    obtain ⟨h0, h30⟩ := hfw
    clear hf
    obtain ⟨its, hits⟩ : ∃ its, its = elems xs n := ⟨_, rfl⟩
    have HIts := Lib.hid hits
    have HIl : Hid (its.length = n) := Lib.hid (by rw [hits, elems_len])
    have HNd : Hid (its.Nodup) := Lib.hid (by rw [hits]; exact elems_nodup xs n)
    clear hits
    obtain ⟨k, hk⟩ : ∃ k, k = u % n := ⟨_, rfl⟩
    have hkn : k < n := by rw [hk]; exact Nat.mod_lt _ h0
    have hki : (u : Int) % (n : Nat) = (k : Nat) := by rw [hk]; push_cast; rfl
    obtain ⟨h, hh⟩ : ∃ h, h = 1 + k := ⟨_, rfl⟩
    have hhi : 1 + (k : Int) = (h : Nat) := by omega
    have hh0 : 0 < h := by omega
    have hhn : h ≤ n := by omega
    clear hk hh
    go_enter Tryd.func4, Tryd.ntmps4
    go_wp2_with fail
    refine (dxFew_any A n c _ hn).mono ?_
    rintro r w1 ⟨rfl, rfl⟩
    rw [HF.out]
    go_wp2_with fail
    refine (items_any A n c xs _ HX.out (by omega) HA.out H16.out).mono ?_
    rintro r w2 ⟨v, rfl, hO, hC⟩
    rw [← HIts.out] at hO
    obtain ⟨bi1, ci1, rfl, hR, hnc1, _, _⟩ := row_rd hO h0
    have HI1 := Lib.hid hR
    have HCw2 := Lib.hid hC
    clear hO hR hC
    go_wp2_with fail
    try rw [hhi]
    refine (puts_any bi1 0 n ci1 30 its _ HIl.out h0 hnc1 (by omega) (by omega) (by omega) HI1.out).mono ?_
    rintro r w3 ⟨⟨v, ss, m, rfl, hP, hm0, hmn⟩, hC⟩
    obtain ⟨bp, cp, rfl, hR, _, _, _⟩ := row_rd hP.own hm0
    have HP := Lib.hid hP
    have HRp := Lib.hid hR
    have HCw3 := Lib.hid (HCw2.out.trans hC)
    have hCx := hC
    have HIq1 := Lib.hid (HI1.out.keep0 hC)
    clear hP hR hC hCx
    go_wp2_with fail
    try rw [hhi]
    refine (takes_any bp 0 m cp h ss _ HP.out.len hm0 (by omega) HRp.out).mono ?_
    rintro r w4 ⟨v4, rfl, hO4, hC4⟩
    obtain ⟨b4, c4, rfl, hR4, _, _, _⟩ := row_rd hO4 (by omega)
    have HO4 := Lib.hid (olds_snoc (HP.out.old.keep hC4 (fun _ h => h.elim)) (St1.tk _ h _)).none
    have HR4 := Lib.hid hR4
    have HIq4 := Lib.hid (HIq1.out.keep0 hC4)
    have HC4 := Lib.hid (HCw3.out.trans hC4)
    clear hO4 hR4 hC4
    by_cases hlt : h < n
    · have hlti : (h : Int) < (n : Nat) := by omega
      go_wp2_with fail
      refine (takes_any b4 0 (m + 1) c4 1000 (ss ++ [tk h]) _ (by simp [HP.out.len]) (by omega) (by omega) HR4.out).mono ?_
      rintro r w5 ⟨v5, rfl, hO5, hC5⟩
      obtain ⟨bs, cs, rfl, hR5, _, _, _⟩ := row_rd hO5 (by omega)
      have HOs0 : Hid (∀ s ∈ ss ++ [tk h] ++ [tk 1000], St1 w5 noB s) := Lib.hid (fun s hs => by
        rcases List.mem_append.1 hs with hs | hs
        · exact (HO4.out s hs).keep hC5 (fun _ h => h.elim)
        · obtain rfl := List.mem_singleton.1 hs
          exact St1.tk _ _ _)
      have HRs0 := Lib.hid hR5
      have HIq := Lib.hid (HIq4.out.keep0 hC5)
      have HCs := Lib.hid (HC4.out.trans hC5)
      have HFk := Lib.hid (puts_take_two (dup := true) (s := tk h) (t := tk 1000) HP.out.put HP.out.its (isGet_tk h) (isGet_tk 1000) hh0 (by rw [HIl.out]; exact hlt) (by rw [HIl.out]; omega) (Or.inl rfl))
      clear hO5 hR5 hC5
      go_wp2_with fail
      refine (queue_any bi1 0 n ci1 its _ HIl.out h0 hnc1 (by omega) HIq.out).mono ?_
      rintro r w7 ⟨A7, m7, c7, rfl, hm7, hR7, hC7⟩
      have HM7 := Lib.hid hm7
      have HR7 := Lib.hid hR7
      have HRs := Lib.hid (HRs0.out.keep0 hC7)
      have HOs := Lib.hid (fun s hs => (HOs0.out s hs).keep hC7 (fun _ h => h.elim) : ∀ s ∈ ss ++ [tk h] ++ [tk 1000], St1 w7 noB s)
      have HC7 := Lib.hid (HCs.out.trans hC7)
      clear hm7 hR7 hC7
      have hg := got_any 0 (m + 1 + 1) cs bs 0 true _ _ w7 (by omega) (by simp [HP.out.len]) (by omega) (by omega) HRs.out HOs.out HFk.out.1 HFk.out.2 (by rw [keys_srt_len, HIl.out]; omega)
      have HG := Lib.hid hg
      clear hg
      go_wp2_with fail
      refine HG.out.mono ?_
      rintro r w8 ⟨A8, m8, c8, rfl, hm8, hR8, hC8⟩
      have HM8 := Lib.hid hm8
      have HR8 := Lib.hid hR8
      have HR7q := Lib.hid (HR7.out.keep0 hC8)
      have HC8 := Lib.hid (HC7.out.trans hC8)
      clear hm8 hR8 hC8
      have hm78 : m7 = m8 := by rw [← HM7.out, HM8.out]
      subst hm78
      go_wp2_with fail
      refine (equal_int A7 A8 m7 m7 c7 c8 _ _ _ HM7.out HM8.out (by have := HM7.out; rw [keys_srt_len, HIl.out] at this; omega) (by have := HM7.out; rw [keys_srt_len, HIl.out] at this; omega) HR7q.out HR8.out).mono ?_
      rintro r w9 ⟨rfl, hC9⟩
      have e : decide (srt (keys its) = srt (keys its)) = true := by simp
      rw [e]
      have HC9 := Lib.hid (HC8.out.trans hC9)
      clear e hC9
      go_wp2_with fail
      go_ret
      exact ⟨rfl, HC9.out⟩
    · have hlti : ¬ (h : Int) < (n : Nat) := by omega
      have hne : h = n := by omega
      obtain ⟨bs, hbs⟩ : ∃ bs, b4 = bs := ⟨_, rfl⟩
      obtain ⟨cs, hcs⟩ : ∃ cs, c4 = cs := ⟨_, rfl⟩
      subst hbs hcs
      have HOs0 := HO4
      have HRs0 := HR4
      have HIq := HIq4
      have HCs := HC4
      have HFk := Lib.hid (puts_take_one (dup := true) (s := tk h) HP.out.put HP.out.its (isGet_tk h) (by omega) (by rw [HIl.out]; exact h0) (by rw [HIl.out]; omega) (Or.inl rfl))
      have HNe := Lib.hid hne
      clear hne
      go_wp2_with fail
      refine (queue_any bi1 0 n ci1 its _ HIl.out h0 hnc1 (by omega) HIq.out).mono ?_
      rintro r w7 ⟨A7, m7, c7, rfl, hm7, hR7, hC7⟩
      have HM7 := Lib.hid hm7
      have HR7 := Lib.hid hR7
      have HRs := Lib.hid (HRs0.out.keep0 hC7)
      have HOs := Lib.hid (fun s hs => (HOs0.out s hs).keep hC7 (fun _ h => h.elim) : ∀ s ∈ ss ++ [tk h], St1 w7 noB s)
      have HC7 := Lib.hid (HCs.out.trans hC7)
      clear hm7 hR7 hC7
      have hg := got_any 0 (m + 1) c4 b4 0 true _ _ w7 (by omega) (by simp [HP.out.len]) (by omega) (by omega) HRs.out HOs.out HFk.out.1 HFk.out.2 (by rw [keys_srt_len, HIl.out]; omega)
      have HG := Lib.hid hg
      clear hg
      go_wp2_with fail
      refine HG.out.mono ?_
      rintro r w8 ⟨A8, m8, c8, rfl, hm8, hR8, hC8⟩
      have HM8 := Lib.hid hm8
      have HR8 := Lib.hid hR8
      have HR7q := Lib.hid (HR7.out.keep0 hC8)
      have HC8 := Lib.hid (HC7.out.trans hC8)
      clear hm8 hR8 hC8
      have hm78 : m7 = m8 := by rw [← HM7.out, HM8.out]
      subst hm78
      go_wp2_with fail
      refine (equal_int A7 A8 m7 m7 c7 c8 _ _ _ HM7.out HM8.out (by have := HM7.out; rw [keys_srt_len, HIl.out] at this; omega) (by have := HM7.out; rw [keys_srt_len, HIl.out] at this; omega) HR7q.out HR8.out).mono ?_
      rintro r w9 ⟨rfl, hC9⟩
      have e : decide (srt (keys its) = srt (keys its)) = true := by simp
      rw [e]
      have HC9 := Lib.hid (HC8.out.trans hC9)
      clear e hC9
      go_wp2_with fail
      go_ret
      exact ⟨rfl, HC9.out⟩
end Go.Proofs.YtpkeiankocimaaaDoor
