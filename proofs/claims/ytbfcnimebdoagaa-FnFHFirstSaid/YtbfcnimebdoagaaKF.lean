/- WALK: FnFHFirst. -/
import Derived.Test.YtbfcnimebdoagaaKP
import Derived.Test.YtbfcnimebdoagaaKG
import Derived.Deep.RegionLaw
namespace Go.Proofs.Ytbfcnimebdoagaa
open Go.RowKit
set_option linter.unusedVariables false
set_option linter.unusedSimpArgs false

theorem hst_first (w : World) (xs : List Int) (n k : Nat) : ∀ s ∈ fsteps xs n k, HSt w s := fun s hs => by
  unfold fsteps at hs
  rcases List.mem_append.1 hs with h | h
  · rcases List.mem_append.1 h with h | h
    · rcases List.mem_append.1 h with h | h
      · exact hst_enqOf w xs s h
      · exact hst_enqOf w _ s h
    · rw [List.eq_of_mem_replicate h]; exact hst_deq w
  · simp at h
    rcases h with rfl | rfl
    · exact ⟨rfl, Rd.nil _ _, fun b o e => (by cases e)⟩
    · exact hst_deq w
theorem bigs_succ (j : Nat) : bigs (j + 1) = bigs j ++ [-262144] := by simp [bigs, List.replicate_succ']
theorem big_cells (xs : List Int) (j : Nat) : hpCells (enqOf xs ++ enqOf (bigs (j + 1))) = hpCells (enqOf xs ++ enqOf (bigs j)) ++ [.int .i64 1, .int .i64 0, .int .i64 (-262144), .slice none 0 0] := by
  rw [bigs_succ]
  simp [enqOf, hpCells, hpC, enqS]
theorem fin_cells (xs : List Int) (n k : Nat) : hpCells ((enqOf xs ++ enqOf (bigs n)) ++ deqs n) ++ [.int .i64 4, .int .i64 (k : Nat), .int .i64 (-131072), .slice none 0 0, .int .i64 3, .int .i64 0, .int .i64 0, .slice none 0 0] = hpCells (fsteps xs n k) := by
  unfold fsteps
  simp [hpCells, hpC, decS, deqS]
/-- Two appends to a nil slice, one behind the other, change nothing that was there. -/
theorem ch_two {a b c : World} {e sz n : Nat} {v8 : Value} {xs : List Value} (h1 : Ch (fun k => Value.ownBlock (.slice none 0 0) = some k) a b) (h2 : Ch (fun k => v8.ownBlock = some k) b c) (ho : b.ownsRow a.heap.size e sz v8 n xs) : Ch S0 a c :=
  (h1.mono (fun _ _ h => by cases h)).trans' h2 (fun i hi h => absurd hi (Nat.not_lt.2 (own_lt ho i h).1))
set_option maxRecDepth 100000 in
theorem dfEnq_none (A : Option Addr) (c : Nat) (w : World) :
    Calls Try.prog 10 #[.slice A 0 c, .int .i64 0] w fun r w' => r = .returned (.slice none 0 0) ∧ Ch S0 w w' := by
  go_enter Try.func10, Try.ntmps10
  go_wp2_with fail
  go_loopw [5, 10] (fun vo vi wr => vo = .slice none 0 0 ∧ vi = .int .i64 0 ∧ Ch S0 w wr) (fun _ vi _ => 0)
  case atStart => exact ⟨rfl, rfl, Ch.refl _ _⟩
  case round =>
    obtain ⟨rfl, rfl, hC⟩ := hrel
    go_wp2_with fail
    go_ret
    exact ⟨rfl, hC⟩
theorem dfEnq_sh (A : Option Addr) (n c : Nat) (xs : List Int) (w : World) (hx : xs.length = n) (hn : n ≤ 1000000) (hA : Rd w A (sv xs)) (h16 : is16 xs) :
    Calls Try.prog 10 #[.slice A n c, .int .i64 0] w fun r w' => ∃ A' c', r = .returned (.slice A' n c') ∧ Rd w' A' (hpCells (enqOf xs)) ∧ ((n = 0 ∧ A' = none ∧ c' = 0) ∨ 0 < n) ∧ Ch S0 w w' := by
  rcases Nat.eq_zero_or_pos n with h | h
  · subst h
    obtain rfl := List.eq_nil_of_length_eq_zero hx
    refine (dfEnq_none A c w).mono ?_
    rintro r w' ⟨rfl, hC⟩
    exact ⟨none, 0, rfl, Rd.nil _ _, Or.inl ⟨rfl, rfl, rfl⟩, hC⟩
  · refine (dfEnq_any A n c xs w hx hn hA h16).mono ?_
    rintro r w' ⟨v, rfl, hO, hC⟩
    obtain ⟨A', c', rfl, hR, _⟩ := own_shape hO
    exact ⟨A', c', rfl, hR, Or.inr h, hC⟩
theorem sv_cut (xs : List Int) (k : Nat) : [] ++ sv (xs.take k) ++ sv (xs.drop (k + 1)) = sv (xs.take k ++ xs.drop (k + 1)) := by simp [sv]
theorem is16_cut {xs : List Int} (h : is16 xs) (k : Nat) : is16 (xs.take k ++ xs.drop (k + 1)) := fun x hx => by
  rcases List.mem_append.1 hx with h1 | h1
  · exact h x (List.mem_of_mem_take h1)
  · exact h x (List.mem_of_mem_drop h1)
set_option maxRecDepth 100000 in
set_option maxHeartbeats 16000000 in
theorem first_small (A : Option Addr) (n c : Nat) (xs : List Int) (k1 k2 : Nat) (w : World) (hx : xs.length = n) (hn : n ≤ 2147483647) (hA : Rd w A (sv xs)) (h1 : is16 xs) (hk1 : k1 ≤ 255) (hk2 : k2 ≤ 255) (hcap : n ≤ c) (hcap2 : c ≤ 9223372036854775807) :
    Calls Try.prog 3 #[.slice A n c, .int .u8 k1, .int .u8 k2] w fun r w' => r = .returned (.bool true) ∧ Ch S0 w w' := by
  have HX := Lib.hid hx
  have HA := Lib.hid hA
  have H16 := Lib.hid h1
  have HCap := Lib.hid (And.intro hcap hcap2)
  clear hx hA h1 hcap hcap2
  have hni : ¬ (2147483647 : Int) < (n : Nat) := by omega
  have HF := Lib.hid (dxFew_any A n c w hn)
  cases hf : few30 n
  · rw [hf] at HF
    clear hf
    go_enter Try.func3, Try.ntmps3
    go_wp2_with fail
    refine HF.out.mono ?_
    rintro r w1 ⟨rfl, e1⟩
    rw [e1]
    clear e1
    go_wp2_with fail
    go_ret
    exact ⟨rfl, Ch.refl _ _⟩
  rw [hf] at HF
  obtain ⟨h0, h30⟩ : 0 < n ∧ n ≤ 30 := by simpa [few30] using hf
  clear hf
  obtain ⟨q1, hq1⟩ : ∃ q, q = k1 % n := ⟨_, rfl⟩
  obtain ⟨q2, hq2⟩ : ∃ q, q = k2 % n := ⟨_, rfl⟩
  have hq1l : q1 < n := by rw [hq1]; exact Nat.mod_lt _ h0
  have hq2l : q2 < n := by rw [hq2]; exact Nat.mod_lt _ h0
  have hr1 : (k1 : Int).tmod (n : Int) = (q1 : Nat) := by rw [hq1, Int.tmod_eq_emod_of_nonneg (Int.natCast_nonneg _)]; rfl
  have hr2 : (k2 : Int).tmod (n : Int) = (q2 : Nat) := by rw [hq2, Int.tmod_eq_emod_of_nonneg (Int.natCast_nonneg _)]; rfl
  have hnz : ¬ (n : Int) = 0 := by omega
  have hnzb : ((n : Int) == 0) = false := by simpa using hnz
  clear hq1 hq2
  go_enter Try.func3, Try.ntmps3
  go_wp2_with fail
  refine HF.out.mono ?_
  rintro r w1 ⟨rfl, e1⟩
  rw [e1]
  clear e1
  go_wp2_with fail
  refine (dfEnq_any A n c xs _ HX.out (by omega) HA.out H16.out).mono ?_
  rintro r w2 ⟨v2, rfl, hO, hC⟩
  have HO2 := Lib.hid hO
  have HC2 := Lib.hid hC
  clear hO hC
  go_wp2_with fail
  go_quiet (fail)
  obtain ⟨w3, hw3⟩ : ∃ W, W = w2.drewN nq := ⟨_, rfl⟩
  have hC23 : Ch S0 w2 w3 := by rw [hw3]; exact (Ch.refl S0 w2).drewN nq
  rw [← hw3]
  have HO3 := Lib.hid (own_keep0 HO2.out hC23)
  have HC3 := Lib.hid (HC2.out.trans hC23)
  clear hw3 hC23 hr1 hr2 hnz hnzb
  go_step
  go_wp2_with fail
  go_loopw [7, 35] (fun vo vi wr => ∃ j : Nat, j ≤ q2 ∧ vi = .int .i64 j ∧ wr.ownsRow w.heap.size 28 4 vo (n + j) (hpCells (enqOf xs ++ enqOf (bigs j))) ∧ Ch S0 w wr) (fun _ vi _ => q2 - (intOf vi).toNat)
  case atStart => exact ⟨0, by omega, rfl, by have := HO3.out; simpa [bigs, enqOf] using this, HC3.out⟩
  case round =>
    obtain ⟨j, hj, rfl, hO, hC⟩ := hrel
    have HO := Lib.hid hO
    have HC := Lib.hid hC
    clear hO hC
    by_cases hlt : j < q2
    · have hlti : (j : Int) < (q2 : Nat) := by omega
      have hsz := HC.out.size
      have HT := Lib.hid (big_cells xs j)
      go_wp2_with (at_builtin; go_loud (refine app_own elHs rfl (.tmp 37) (.tmp 39) rfl w.heap.size (n + j) u7 (hpCells (enqOf xs ++ enqOf (bigs j))) rfl HO.out [.int .i64 1, .int .i64 0, .int .i64 (-262144), .slice none 0 0] rfl (by simp [Value.oneCell']) _ rfl rfl (by unfold maxLen; omega) (by omega) hsz ?_); intro v' w4 hown4 hc4 hb4; have HOw := Lib.hid hown4; have HC4 := Lib.hid hc4; clear hown4 hc4 hb4)
      go_roundw
      case rel => exact ⟨j + 1, by omega, by go_num, by rw [HT.out]; exact HOw.out, HC.out.trans' HC4.out (fun i hi hs => absurd (own_lt HO.out i hs).1 (by omega))⟩
      case measure => simp [intOf]; omega
    · have hin : ¬ (j : Int) < (q2 : Nat) := by omega
      have hje : j = q2 := by omega
      have hO := HO.out
      rw [hje] at hO
      have HO := Lib.hid hO
      rw [hje]
      have HC5 := Lib.hid HC.out
      clear hO hje hlt hin hj HC HO3 HO2
      go_wp2_with fail
      go_loopw [7, 43] (fun vo vi wr => ∃ j : Nat, j ≤ q2 ∧ vi = .int .i64 j ∧ wr.ownsRow w.heap.size 28 4 vo (n + q2 + j) (hpCells ((enqOf xs ++ enqOf (bigs q2)) ++ deqs j)) ∧ Ch S0 w wr) (fun _ vi _ => q2 - (intOf vi).toNat)
      case atStart => exact ⟨0, by omega, rfl, by have := HO.out; simpa [deqs] using this, HC5.out⟩
      case round =>
        obtain ⟨j, hj, rfl, hO, hC⟩ := hrel
        clear HO
        have HO := Lib.hid hO
        have HC := Lib.hid hC
        clear hO hC
        by_cases hlt : j < q2
        · have hlti : (j : Int) < (q2 : Nat) := by omega
          have hsz := HC.out.size
          have HT : Hid (hpCells ((enqOf xs ++ enqOf (bigs q2)) ++ deqs (j + 1)) = hpCells ((enqOf xs ++ enqOf (bigs q2)) ++ deqs j) ++ hpC deqS) := Lib.hid (by rw [deqs_succ, ← List.append_assoc, hp_snoc])
          go_wp2_with (at_builtin; go_loud (refine app_own elHs rfl (.tmp 45) (.tmp 47) rfl w.heap.size (n + q2 + j) u7 (hpCells ((enqOf xs ++ enqOf (bigs q2)) ++ deqs j)) rfl HO.out (hpC deqS) rfl (by simp [hpC, deqS, Value.oneCell']) _ rfl rfl (by unfold maxLen; omega) (by omega) hsz ?_); intro v' w4 hown4 hc4 hb4; have HOw := Lib.hid hown4; have HC4 := Lib.hid hc4; clear hown4 hc4 hb4)
          go_roundw
          case rel => exact ⟨j + 1, by omega, by go_num, by rw [HT.out]; exact HOw.out, HC.out.trans' HC4.out (fun i hi hs => absurd (own_lt HO.out i hs).1 (by omega))⟩
          case measure => simp [intOf]; omega
        · have hin : ¬ (j : Int) < (q2 : Nat) := by omega
          have hje : j = q2 := by omega
          have hO := HO.out
          rw [hje] at hO
          obtain ⟨N0, hN0⟩ : ∃ N0, n + q2 + q2 = N0 := ⟨_, rfl⟩
          rw [hN0] at hO
          have HN0 := Lib.hid hN0
          have hN9 : N0 ≤ 100 := by omega
          have HO7 := Lib.hid hO
          have HC7 := Lib.hid HC.out
          rw [hje]
          clear hO hje hlt hin hj HC HO hN0 HC5 HC3 HC2
          obtain ⟨wS, hwS⟩ : ∃ W, W = wr := ⟨_, rfl⟩
          rw [← hwS] at HO7 HC7 ⊢
          clear hwS
          have HSt : Hid (Rd (wS.alloc (.cells #[.int .i64 4, .int .i64 0, .int .i64 0, .slice none 0 0] 28)) none []) := Lib.hid (Rd.nil _ _)
          have HRs : Hid (Rd (wS.alloc (.cells #[.int .i64 4, .int .i64 (q1 : Nat), .int .i64 (-131072), .slice none 0 0, .int .i64 3, .int .i64 0, .int .i64 0, .slice none 0 0] 28)) (some ⟨wS.heap.size, 0, none⟩) [.int .i64 4, .int .i64 (q1 : Nat), .int .i64 (-131072), .slice none 0 0, .int .i64 3, .int .i64 0, .int .i64 0, .slice none 0 0]) := Lib.hid (Rd.new wS [.int .i64 4, .int .i64 (q1 : Nat), .int .i64 (-131072), .slice none 0 0, .int .i64 3, .int .i64 0, .int .i64 0, .slice none 0 0] 28)
          have HOs := Lib.hid (own_keep0 HO7.out ((Ch.refl S0 wS).alloc (.cells #[.int .i64 4, .int .i64 (q1 : Nat), .int .i64 (-131072), .slice none 0 0, .int .i64 3, .int .i64 0, .int .i64 0, .slice none 0 0] 28)))
          have hb9 : w.heap.size ≤ (wS.alloc (.cells #[.int .i64 4, .int .i64 (q1 : Nat), .int .i64 (-131072), .slice none 0 0, .int .i64 3, .int .i64 0, .int .i64 0, .slice none 0 0] 28)).heap.size := by rw [World.size_alloc]; have := HC7.out.size; omega
          have hm9 : N0 + 2 ≤ maxLen := by unfold maxLen; omega
          have hm8 : (N0 + 2) * 48 ≤ 140737488355328 := by omega
          have hone : ∀ u ∈ [Value.int .i64 4, .int .i64 (q1 : Nat), .int .i64 (-131072), .slice none 0 0, .int .i64 3, .int .i64 0, .int .i64 0, .slice none 0 0], u.oneCell' = true := by simp [Value.oneCell']
          clear HSt
          go_wp2_with (at_builtin; go_loud (refine app_all elHs rfl (.tmp 50) (.tmp 54) rfl w.heap.size N0 u7 (hpCells ((enqOf xs ++ enqOf (bigs q2)) ++ deqs q2)) rfl HOs.out wS.heap.size 0 2 2 [.int .i64 4, .int .i64 (q1 : Nat), .int .i64 (-131072), .slice none 0 0, .int .i64 3, .int .i64 0, .int .i64 0, .slice none 0 0] rfl hone rfl HRs.out hm9 hm8 hb9 ?_); intro v' w5 hown5 hc5 hb5 hni5; obtain ⟨A7, c7, rfl, hR7, hx7⟩ := own_sl hown5; have HR7 := Lib.hid hR7; have HC8 := Lib.hid hc5; have HB7 := Lib.hid hx7; clear hown5 hc5 hb5 hR7 hni5 hx7)
          have hR7 := HR7.out
          rw [fin_cells] at hR7
          have HR7 := Lib.hid hR7
          have hx1 : ∀ x ∈ xs, -32768 ≤ x := fun x h => (H16.out x h).1
          have HX1 := Lib.hid hx1
          have hrun := hrun_any (N0 + 2) c7 A7 (fsteps xs q2 q1) w5 (by rw [fsteps_len, HX.out, HN0.out]) (by omega) hR7 (hst_first w5 xs q2 q1) (by
            have := first_fine (m := 0) (n := q2) (k := q1) (fun x h => H16.out x h) (by rw [HX.out]; exact hq1l) (by rw [HX.out]; omega) (by omega) (by rw [HX.out]; omega)
            simpa [deqs] using this)
          have HRun := Lib.hid hrun
          clear hR7 hx1 hrun hone hm9 hm8 hb9
          refine HRun.out.mono ?_
          rintro r w6 ⟨⟨v6, ds, B, cl, rfl, hO6, hR6⟩, hC6⟩
          obtain ⟨d1, d, d2, hds, p1, p2, _⟩ := first_core HX1.out (by rw [HX.out]; exact hq1l) hR6
          have hdl := hR6.len
          rw [fsteps_len, HX.out, HN0.out, hds] at hdl
          have hd1l : d1.length = N0 := by simp at hdl; omega
          have his := runs_is hR6 d (by rw [hds]; simp)
          obtain ⟨A6, c6, rfl, hRd, hx6⟩ := own_sl hO6
          obtain ⟨b6, o6, e6, j0, _, _, _, _⟩ := rd_hd (j := N0) (x := d) hRd (by rw [hds, List.getElem?_append_right (by omega), hd1l, Nat.sub_self]; rfl)
          obtain ⟨b7, o7, e7, _, j1, j2, _, _⟩ := rd_hd (j := N0 + 1) (x := d2) hRd (by rw [hds, List.getElem?_append_right (by omega), hd1l, show N0 + 1 - N0 = 1 by omega]; rfl)
          rw [e6] at e7
          cases e7
          subst e6
          rw [his] at j0
          rw [p1] at j1
          rw [p2] at j2
          have i1 : (0 : Int) ≤ (N0 : Nat) := by omega
          have i2 : (N0 : Int) < (N0 : Int) + 2 := by omega
          have i3 : (N0 : Int) + 1 < (N0 : Int) + 2 := by omega
          have i4 : (0 : Int) ≤ (N0 : Int) + 1 := by omega
          have i5 : ((N0 : Int) + 1).toNat = N0 + 1 := by omega
          have i6 : (N0 : Int) + 2 - 1 = (N0 : Int) + 1 := by omega
          have i7 : (N0 : Int) + 2 - 2 = (N0 : Nat) := by omega
          have HC9 := Lib.hid hC6
          clear hds hdl hd1l his hO6 hR6 hC6 p1 p2 hRd hx6
          go_wp2_with fail
          clear i2 i3 i4 i5 i6 i7 j0 j1 j2
          obtain ⟨ab, ao, hAe, hab⟩ := HA.out.lt (by rw [sv_length, HX.out]; exact h0)
          subst hAe
          clear hab
          have hcap := HCap.out
          have hc1 : (q1 : Int) ≤ (c : Nat) := by omega
          have hc2 : (0 : Int) ≤ (q1 : Nat) := by omega
          have hc3 : (q1 : Int) + 1 ≤ (n : Nat) := by omega
          have hc4 : (n : Int) ≤ (c : Nat) := by omega
          have hc5 : (0 : Int) ≤ (q1 : Int) + 1 := by omega
          have hc6 : (q1 : Int) + 1 ≤ (c : Nat) := by omega
          have hc7 : ((q1 : Int) + 1).toNat = q1 + 1 := by omega
          have hwn : IntKind.i64.wrap ((q1 : Int) + 1) = (q1 : Int) + 1 := wrap_nat9 (t := q1 + 1) (by omega)
          have hc8 : (q1 : Int) ≤ 30 := by omega
          clear hcap
          have HL1 : Hid ((sv (xs.take q1)).length = q1 * 1) := Lib.hid (by rw [sv_length, List.length_take, HX.out]; omega)
          have HL2 : Hid ((sv (xs.drop (q1 + 1))).length = (n - (q1 + 1)) * 1) := Lib.hid (by rw [sv_length, List.length_drop, HX.out]; omega)
          have HM1 : Hid (0 + q1 ≤ maxLen) := Lib.hid (by unfold maxLen; omega)
          have HM2 : Hid ((0 + q1) * 2 ≤ 140737488355328) := Lib.hid (by omega)
          have HM3 : Hid (q1 + (n - (q1 + 1)) ≤ maxLen) := Lib.hid (by unfold maxLen; omega)
          have HM4 : Hid ((q1 + (n - (q1 + 1))) * 2 ≤ 140737488355328) := Lib.hid (by omega)
          have hA6 := HA.out.keep0 (HC7.out.trans' ((Ch.refl S0 wS).alloc (.cells #[.int .i64 4, .int .i64 (q1 : Nat), .int .i64 (-131072), .slice none 0 0, .int .i64 3, .int .i64 0, .int .i64 0, .slice none 0 0] 28)) (fun _ _ h => h))
          have hv7 : ∀ k, u7.ownBlock = some k → w.heap.size ≤ k := fun k e => (own_lt HO7.out k e).1
          have hA7 : Rd w6.drew (some ⟨ab, ao, none⟩) (sv xs) := (((HA.out.keep0 (((HC7.out.trans ((Ch.refl S0 wS).alloc _)).trans' HC8.out (fun i hi e => by have := hv7 i e; omega)).trans HC9.out)).keep0 (Ch.refl S0 w6).drew))
          have HRa : Hid (Rd w6.drew (some ⟨ab, ao, none⟩) (sv (xs.take q1))) := Lib.hid (by have := hA7.take q1; rwa [show (sv xs).take q1 = sv (xs.take q1) by simp [sv]] at this)
          have HRb : Hid (Rd w6.drew (some ⟨ab, ao + (q1 + 1), none⟩) (sv (xs.drop (q1 + 1)))) := Lib.hid (by have := hA7.drop (q1 + 1); rwa [show (sv xs).drop (q1 + 1) = sv (xs.drop (q1 + 1)) by simp [sv]] at this)
          have HOn := Lib.hid (sv_one (xs.take q1))
          have HOn2 := Lib.hid (sv_one (xs.drop (q1 + 1)))
          have HNil := Lib.hid (World.ownsRow_nil w6.drew w6.heap.size 37 1)
          have HSz : Hid (w6.heap.size ≤ w6.drew.heap.size) := Lib.hid (Nat.le_refl _)
          clear hA6 hv7
          obtain ⟨m, hm⟩ : ∃ m, q1 + (n - (q1 + 1)) = m := ⟨_, rfl⟩
          have HMn := Lib.hid hm
          have HmN : Hid (m + 1 = n) := Lib.hid (by omega)
          have HSv := Lib.hid (sv_cut xs q1)
          have HRl : Hid ((xs.take q1 ++ xs.drop (q1 + 1)).length = m) := Lib.hid (by rw [List.length_append, List.length_take, List.length_drop, HX.out]; omega)
          have HR16 := Lib.hid (is16_cut H16.out q1)
          have hmle : m ≤ 100 := by omega
          have HCW : Hid (Ch S0 w w6.drew) := Lib.hid ((((HC7.out.trans ((Ch.refl S0 wS).alloc _)).trans' HC8.out (fun i hi e => by have := (own_lt HO7.out i e).1; omega)).trans HC9.out).trans ((Ch.refl S0 w6).drew))
          clear hm hA7
          by_cases hcq : c = q1 + 1
          · have hcn : n ≤ q1 + 1 := by have := HCap.out; omega
            subst hcq
            have hd1 : (q1 : Int) ≤ (q1 : Int) + 1 := by omega
            have hd4 : (n : Int) ≤ (q1 : Int) + 1 := by omega
            clear hc1 hc4 hc6
            have HL20 : Hid ((sv (xs.drop (q1 + 1))).length = 0 * 1) := Lib.hid (by rw [HL2.out]; omega)
            have HMn0 : Hid (q1 + 0 = m) := Lib.hid (by have := HMn.out; omega)
            have HM30 : Hid (q1 + 0 ≤ maxLen) := Lib.hid (by have := HM3.out; omega)
            have HM40 : Hid ((q1 + 0) * 2 ≤ 140737488355328) := Lib.hid (by have := HM4.out; omega)
            have HRb : Hid (Rd w6.drew (some ⟨ab, ao, none⟩) (sv (xs.drop (q1 + 1)))) := Lib.hid (by rw [List.drop_eq_nil_of_le (by rw [HX.out]; have := HCap.out; omega)]; exact Rd.nil _ _)
            go_region_law (first
              | (refine step_all elI16 rfl (.const (.slice none 0 0)) (.tmp 96) rfl w6.heap.size 0 (.slice none 0 0) [] (by rfl) HNil.out ab ao q1 _ (sv (xs.take q1)) HL1.out HOn.out (by rfl) HRa.out HM1.out HM2.out HSz.out ?_
                 intro v8 w8 hO8 hC8 _ _
                 obtain ⟨A8, cap8, rfl, _⟩ := own_rd hO8
                 rw [Nat.zero_add] at hO8
                 have HO8 := Lib.hid hO8
                 have HRc := Lib.hid (HRb.out.keep hC8 (fun b o e h => by cases h))
                 have HSz8 := Lib.hid (Nat.le_trans HSz.out hC8.size)
                 have HC10 := Lib.hid hC8
                 clear hO8 hC8)
              | (refine step_all elI16 rfl (.tmp 97) (.tmp 101) rfl w6.heap.size q1 _ ([] ++ sv (xs.take q1)) (by rfl) HO8.out ab ao 0 0 (sv (xs.drop (q1 + 1))) HL20.out HOn2.out (by rfl) HRc.out HM30.out HM40.out HSz8.out ?_
                 intro v9 w9 hO9 hC9 _ _
                 rw [HMn0.out, HSv.out] at hO9
                 obtain ⟨A9, cap9, rfl, hR9, _⟩ := own_shape hO9
                 have HC11 := Lib.hid (ch_two HC10.out hC9 HO8.out)
                 have HR9 := Lib.hid hR9
                 clear hO9 hC9 hR9))
            have HR7 := Lib.hid (((HR7.out.keep0 HC9.out).keep0 ((Ch.refl S0 w6).drew)).keep0 HC11.out)
            have HCv := Lib.hid (HCW.out.trans HC11.out)
            clear HL20 HMn0 HM30 HM40 HC10 HO8 HRc HSz8 HSz HNil HOn HOn2 HRa HRb HL1 HL2 HM1 HM2 HM3 HM4 HCW HC11
            go_step
            go_wp2_with fail
            refine (dfEnq_sh A9 m cap9 (xs.take q1 ++ xs.drop (q1 + 1)) _ HRl.out (by omega) HR9.out HR16.out).mono ?_
            rintro r wa ⟨Aa, ca, rfl, hR, hsh, hC⟩
            have hd := df_sorted (c := ca) HRl.out (by omega) hR hsh (is16_abs HR16.out)
            have HD := Lib.hid hd
            have HR7 := Lib.hid (HR7.out.keep0 hC)
            have HCv := Lib.hid (HCv.out.trans hC)
            clear hR hsh hC hd HR9
            go_wp2_with fail
            refine HD.out.mono ?_
            rintro r wb ⟨⟨v, rfl, hO⟩, hC⟩
            obtain ⟨Ab, cb, rfl, hRb, _⟩ := own_shape hO
            have HRb := Lib.hid hRb
            have HR7 := Lib.hid (HR7.out.keep0 hC)
            have HCv := Lib.hid (HCv.out.trans hC)
            clear hO hC hRb HD
            have hk9 : q1 < xs.length := by rw [HX.out]; exact hq1l
            have hl9 : xs.length - 1 = m := by rw [HX.out]; have := HmN.out; omega
            have HFi : Hid (HFine true (fsteps xs q2 q1 ++ deqs m) []) := Lib.hid (first_fine (fun x h => H16.out x h) hk9 (by rw [HX.out]; omega) (by omega) (by rw [HX.out]; have := HmN.out; omega))
            have HDo := Lib.hid (dfOut_any A7 (N0 + 2) c7 m (fsteps xs q2 q1) wb (by rw [fsteps_len, HX.out, HN0.out]) (by omega) (by omega) HR7.out (Or.inr (by omega)) (hst_first wb xs q2 q1) HFi.out (fun ds B cl h => (first_out HX1.out hk9 (by rw [hl9]; exact h)).2))
            have HK9 := Lib.hid hk9
            have HL9 := Lib.hid hl9
            clear hk9 hl9
            go_wp2_with fail
            refine HDo.out.mono ?_
            rintro r wc ⟨⟨v, ds9, B9, cl9, rfl, hr9, hO⟩, hC⟩
            have he9 := (first_out HX1.out HK9.out (by rw [HL9.out]; exact hr9)).1
            rw [HX.out, HN0.out] at he9
            rw [he9] at hO
            obtain ⟨Ac, cc, rfl, hRc, _⟩ := own_shape hO
            have HRc := Lib.hid hRc
            have HRb := Lib.hid (HRb.out.keep0 hC)
            have HCv := Lib.hid (HCv.out.trans hC)
            have HLs : Hid ((srt (xs.take q1 ++ xs.drop (q1 + 1))).length = m) := Lib.hid (by rw [srt_len]; exact HRl.out)
            clear hO hC hRc he9 hr9 HDo HFi HR7
            go_wp2_with fail
            refine (equal_int Ab Ac m m cb cc _ _ _ HLs.out HLs.out (by omega) (by omega) HRb.out HRc.out).mono ?_
            rintro r wd ⟨rfl, hC⟩
            have e : decide (srt (xs.take q1 ++ xs.drop (q1 + 1)) = srt (xs.take q1 ++ xs.drop (q1 + 1))) = true := by simp
            rw [e]
            have HCv := Lib.hid (HCv.out.trans hC)
            clear e hC
            go_wp2_with fail
            go_ret
            exact ⟨rfl, HCv.out⟩
          · have hcq2 : ¬ (c : Int) = (q1 : Int) + 1 := by omega
            skip
            go_region_law (first
              | (refine step_all elI16 rfl (.const (.slice none 0 0)) (.tmp 96) rfl w6.heap.size 0 (.slice none 0 0) [] (by rfl) HNil.out ab ao q1 c (sv (xs.take q1)) HL1.out HOn.out (by rfl) HRa.out HM1.out HM2.out HSz.out ?_
                 intro v8 w8 hO8 hC8 _ _
                 obtain ⟨A8, cap8, rfl, _⟩ := own_rd hO8
                 rw [Nat.zero_add] at hO8
                 have HO8 := Lib.hid hO8
                 have HRc := Lib.hid (HRb.out.keep hC8 (fun b o e h => by cases h))
                 have HSz8 := Lib.hid (Nat.le_trans HSz.out hC8.size)
                 have HC10 := Lib.hid hC8
                 clear hO8 hC8)
              | (refine step_all elI16 rfl (.tmp 97) (.tmp 101) rfl w6.heap.size q1 _ ([] ++ sv (xs.take q1)) (by rfl) HO8.out ab (ao + (q1 + 1)) (n - (q1 + 1)) (c - (q1 + 1)) (sv (xs.drop (q1 + 1))) HL2.out HOn2.out (by rfl) HRc.out HM3.out HM4.out HSz8.out ?_
                 intro v9 w9 hO9 hC9 _ _
                 rw [HMn.out, HSv.out] at hO9
                 obtain ⟨A9, cap9, rfl, hR9, _⟩ := own_shape hO9
                 have HC11 := Lib.hid (ch_two HC10.out hC9 HO8.out)
                 have HR9 := Lib.hid hR9
                 clear hO9 hC9 hR9))
            have HR7 := Lib.hid (((HR7.out.keep0 HC9.out).keep0 ((Ch.refl S0 w6).drew)).keep0 HC11.out)
            have HCv := Lib.hid (HCW.out.trans HC11.out)
            clear HC10 HO8 HRc HSz8 HSz HNil HOn HOn2 HRa HRb HL1 HL2 HM1 HM2 HM3 HM4 HCW HC11
            go_step
            go_wp2_with fail
            refine (dfEnq_sh A9 m cap9 (xs.take q1 ++ xs.drop (q1 + 1)) _ HRl.out (by omega) HR9.out HR16.out).mono ?_
            rintro r wa ⟨Aa, ca, rfl, hR, hsh, hC⟩
            have hd := df_sorted (c := ca) HRl.out (by omega) hR hsh (is16_abs HR16.out)
            have HD := Lib.hid hd
            have HR7 := Lib.hid (HR7.out.keep0 hC)
            have HCv := Lib.hid (HCv.out.trans hC)
            clear hR hsh hC hd HR9
            go_wp2_with fail
            refine HD.out.mono ?_
            rintro r wb ⟨⟨v, rfl, hO⟩, hC⟩
            obtain ⟨Ab, cb, rfl, hRb, _⟩ := own_shape hO
            have HRb := Lib.hid hRb
            have HR7 := Lib.hid (HR7.out.keep0 hC)
            have HCv := Lib.hid (HCv.out.trans hC)
            clear hO hC hRb HD
            have hk9 : q1 < xs.length := by rw [HX.out]; exact hq1l
            have hl9 : xs.length - 1 = m := by rw [HX.out]; have := HmN.out; omega
            have HFi : Hid (HFine true (fsteps xs q2 q1 ++ deqs m) []) := Lib.hid (first_fine (fun x h => H16.out x h) hk9 (by rw [HX.out]; omega) (by omega) (by rw [HX.out]; have := HmN.out; omega))
            have HDo := Lib.hid (dfOut_any A7 (N0 + 2) c7 m (fsteps xs q2 q1) wb (by rw [fsteps_len, HX.out, HN0.out]) (by omega) (by omega) HR7.out (Or.inr (by omega)) (hst_first wb xs q2 q1) HFi.out (fun ds B cl h => (first_out HX1.out hk9 (by rw [hl9]; exact h)).2))
            have HK9 := Lib.hid hk9
            have HL9 := Lib.hid hl9
            clear hk9 hl9
            go_wp2_with fail
            refine HDo.out.mono ?_
            rintro r wc ⟨⟨v, ds9, B9, cl9, rfl, hr9, hO⟩, hC⟩
            have he9 := (first_out HX1.out HK9.out (by rw [HL9.out]; exact hr9)).1
            rw [HX.out, HN0.out] at he9
            rw [he9] at hO
            obtain ⟨Ac, cc, rfl, hRc, _⟩ := own_shape hO
            have HRc := Lib.hid hRc
            have HRb := Lib.hid (HRb.out.keep0 hC)
            have HCv := Lib.hid (HCv.out.trans hC)
            have HLs : Hid ((srt (xs.take q1 ++ xs.drop (q1 + 1))).length = m) := Lib.hid (by rw [srt_len]; exact HRl.out)
            clear hO hC hRc he9 hr9 HDo HFi HR7
            go_wp2_with fail
            refine (equal_int Ab Ac m m cb cc _ _ _ HLs.out HLs.out (by omega) (by omega) HRb.out HRc.out).mono ?_
            rintro r wd ⟨rfl, hC⟩
            have e : decide (srt (xs.take q1 ++ xs.drop (q1 + 1)) = srt (xs.take q1 ++ xs.drop (q1 + 1))) = true := by simp
            rw [e]
            have HCv := Lib.hid (HCv.out.trans hC)
            clear e hC
            go_wp2_with fail
            go_ret
            exact ⟨rfl, HCv.out⟩
end Go.Proofs.Ytbfcnimebdoagaa
