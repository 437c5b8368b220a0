/- WALK: FnXHeaps. -/
import Derived.Test.YtbfcnimebdoagaaKC
import Derived.Test.YtbfcnimebdoagaaML
namespace Go.Proofs.Ytbfcnimebdoagaa
open Go.RowKit
set_option linter.unusedVariables false
set_option linter.unusedSimpArgs false

theorem keys_srt {xs ys : List Int} {n m : Nat} {rs : List El} (hx : xs.length = n) (hy : ys.length = m) (h : Final (mi (srt xs) 0 0 n ++ mi (srt ys) 100 0 m) rs) : rs.map Prod.fst = srt (xs ++ ys) := by
  refine sorted_eq h.2 (srt_sorted _) ((h.1.map _).trans ?_)
  rw [List.map_append]
  have e1 := mi_keys (srt xs) 0 0
  have e2 := mi_keys (srt ys) 100 0
  rw [srt_len, hx] at e1
  rw [srt_len, hy] at e2
  rw [e1, e2]
  simp only [Int.add_zero, List.map_id']
  exact ((srt_perm xs).append (srt_perm ys)).trans (srt_perm _).symm
set_option maxRecDepth 100000 in
set_option maxHeartbeats 8000000 in
theorem xheaps_small (A B : Option Addr) (n m c c' : Nat) (xs ys : List Int) (w : World) (hx : xs.length = n) (hy : ys.length = m) (hn : n ≤ 2147483647) (hm : m ≤ 2147483647) (hA : Rd w A (sv xs)) (hB : Rd w B (sv ys)) (h1 : is16 xs) (h2 : is16 ys) :
    Calls Try.prog 8 #[.slice A n c, .slice B m c'] w fun r w' => r = .returned (.bool true) ∧ Ch S0 w w' := by
  have HX := Lib.hid hx
  have HY := Lib.hid hy
  have HA := Lib.hid hA
  have HB := Lib.hid hB
  have H16 := Lib.hid h1
  have H26 := Lib.hid h2
  clear hx hy hA hB h1 h2
  have hni : ¬ (2147483647 : Int) < (n : Nat) := by omega
  have hmi : ¬ (2147483647 : Int) < (m : Nat) := by omega
  have HF := Lib.hid (dxFew_any A n c w hn)
  have HF2 := Lib.hid (dxFew_any B m c' w hm)
  cases hf : few30 n
  · rw [hf] at HF
    clear hf HF2
    go_enter Try.func8, Try.ntmps8
    go_wp2_with fail
    refine HF.out.mono ?_
    rintro r w1 ⟨rfl, e1⟩
    rw [e1]
    clear e1
    go_wp2_with fail
    go_ret
    exact ⟨rfl, Ch.refl _ _⟩
  rw [hf] at HF
  cases hf2 : few30 m
  · rw [hf2] at HF2
    clear hf hf2
    go_enter Try.func8, Try.ntmps8
    go_wp2_with fail
    refine HF.out.mono ?_
    rintro r w1 ⟨rfl, e1⟩
    rw [e1]
    clear e1
    go_wp2_with fail
    refine HF2.out.mono ?_
    rintro r w2 ⟨rfl, e2⟩
    rw [e2]
    clear e2
    go_wp2_with fail
    go_ret
    exact ⟨rfl, Ch.refl _ _⟩
  rw [hf2] at HF2
  obtain ⟨h0, h30⟩ : 0 < n ∧ n ≤ 30 := by simpa [few30] using hf
  obtain ⟨g0, g30⟩ : 0 < m ∧ m ≤ 30 := by simpa [few30] using hf2
  clear hf hf2
  by_cases hn15 : 15 < n
  · have hi1 : (15 : Int) < (n : Nat) := by omega
    have hi1d : decide (15 < n) = true := by simp [hn15]
    go_enter Try.func8, Try.ntmps8
    go_wp2_with fail
    refine HF.out.mono ?_
    rintro r w1 ⟨rfl, e1⟩
    rw [e1]
    clear e1
    go_wp2_with fail
    refine HF2.out.mono ?_
    rintro r w2 ⟨rfl, e2⟩
    rw [e2]
    clear e2
    go_wp2_with fail
    go_ret
    exact ⟨rfl, Ch.refl _ _⟩
  have hi1 : ¬ (15 : Int) < (n : Nat) := by omega
  have hi1d : decide (15 < n) = false := by simp; omega
  by_cases hm15 : 15 < m
  · have hi2 : (15 : Int) < (m : Nat) := by omega
    have hi2d : decide (15 < m) = true := by simp [hm15]
    go_enter Try.func8, Try.ntmps8
    go_wp2_with fail
    refine HF.out.mono ?_
    rintro r w1 ⟨rfl, e1⟩
    rw [e1]
    clear e1
    go_wp2_with fail
    refine HF2.out.mono ?_
    rintro r w2 ⟨rfl, e2⟩
    rw [e2]
    clear e2
    go_wp2_with fail
    go_ret
    exact ⟨rfl, Ch.refl _ _⟩
  have hi2 : ¬ (15 : Int) < (m : Nat) := by omega
  have hi2d : decide (15 < m) = false := by simp; omega
  go_enter Try.func8, Try.ntmps8
  go_wp2_with fail
  refine HF.out.mono ?_
  rintro r w1 ⟨rfl, e1⟩
  rw [e1]
  clear e1
  go_wp2_with fail
  refine HF2.out.mono ?_
  rintro r w2 ⟨rfl, e2⟩
  rw [e2]
  clear e2
  go_wp2_with fail
  refine (dfEnq_any A n c xs _ HX.out (by omega) HA.out H16.out).mono ?_
  rintro r w3 ⟨v3, rfl, hO, hC⟩
  have HO3 := Lib.hid hO
  have HC3 := Lib.hid hC
  clear hO hC
  go_wp2_with fail
  refine (dsInts_any B m c' ys _ HY.out (by omega) (HB.out.keep0 HC3.out) H26.out).mono ?_
  rintro r w4 ⟨v4, rfl, hO, hC⟩
  obtain ⟨A4, c4, rfl, hR4, _, hb4, _, _⟩ := own_rd hO
  have HO3b := Lib.hid (own_keep0 HO3.out hC)
  have HR4 := Lib.hid hR4
  have HB4 : Hid (∀ b o, A4 = some ⟨b, o, none⟩ → w3.heap.size ≤ b ∧ b < w4.heap.size) := Lib.hid (fun b o e => (hb4 b o none e).2)
  have HV3 : Hid (∀ k, v3.ownBlock = some k → k < w3.heap.size) := Lib.hid (fun k e => (own_lt HO3.out k e).2)
  have HC4 := Lib.hid (HC3.out.trans hC)
  have HV0 := Lib.hid (fun k (e : v3.ownBlock = some k) => (own_lt HO3.out k e).1)
  have hb9 := HC4.out.size
  have hone : ∀ u ∈ [Value.int .i64 6, .int .i64 0, .int .i64 0, .slice A4 m c4], u.oneCell' = true := by simp [Value.oneCell']
  have hm9 : n + 1 ≤ maxLen := by unfold maxLen; omega
  have hm8 : (n + 1) * 48 ≤ 140737488355328 := by omega
  clear hO hC hR4 hb4 HO3
  go_wp2_with (at_builtin; go_loud (refine app_own elHs rfl (.tmp 35) (.tmp 39) rfl _ n v3 (hpCells (enqOf xs)) rfl HO3b.out [.int .i64 6, .int .i64 0, .int .i64 0, .slice A4 m c4] rfl hone _ rfl rfl hm9 hm8 hb9 ?_); intro v' w5 hown5 hc5 hb5; obtain ⟨A5, c5, rfl, hR5, _⟩ := own_rd hown5; have HR5 := Lib.hid hR5; have HC5 := Lib.hid hc5; clear hown5 hc5 hb5 hR5)
  have hR5 := HR5.out
  have e5 : hpCells (enqOf xs) ++ [.int .i64 6, .int .i64 0, .int .i64 0, .slice A4 m c4] = hpCells (enqOf xs ++ [mrgS A4 m c4 ys]) := by rw [hp_snoc]; rfl
  rw [e5] at hR5
  refine (df_merge HX.out HY.out (by omega) (by omega) hR5 (HR4.out.keep HC5.out (fun b o e h => by have h1 := HV3.out b h; have h2 := (HB4.out b o e).1; omega)) (fun b o e => Nat.lt_of_lt_of_le (HB4.out b o e).2 HC5.out.size) (is16_abs H16.out) (is16_abs H26.out)).mono ?_
  rintro r w6 ⟨⟨v6, rfl, hO6⟩, hC6⟩
  obtain ⟨A6, c6, rfl, hR6, _⟩ := own_rd hO6
  have HR6 := Lib.hid hR6
  have HC6 : Hid (Ch S0 w w6) := Lib.hid ((HC4.out.trans' HC5.out (fun i hi e => by have := HV0.out i e; omega)).trans hC6)
  clear hO6 hR6 hC6 e5 hR5
  go_wp2_with fail
  refine (dmItems_any A n c 0 0 xs _ HX.out (by omega) (by omega) (by omega) (by omega) (HA.out.keep0 HC6.out) H16.out).mono ?_
  rintro r w7 ⟨⟨v, rfl, hO⟩, hC⟩
  obtain ⟨zx, kx, rfl, hR, _, _, _⟩ := row_rd hO (by omega)
  have HRx := Lib.hid hR
  have HC7 := Lib.hid (HC6.out.trans hC)
  have HR6 := Lib.hid (HR6.out.keep0 hC)
  clear hO hC hR
  go_wp2_with fail
  refine (dmItems_any B m c' 100 0 ys _ HY.out (by omega) (by omega) (by omega) (by omega) (HB.out.keep0 HC7.out) H26.out).mono ?_
  rintro r w8 ⟨⟨v, rfl, hO⟩, hC⟩
  obtain ⟨zy, ky, rfl, hR, _, _, _⟩ := row_rd hO (by omega)
  have HRy := Lib.hid hR
  have HC8 := Lib.hid (HC7.out.trans hC)
  have HR6 := Lib.hid (HR6.out.keep0 hC)
  have HRx := Lib.hid (HRx.out.keep0 hC)
  clear hO hC hR
  go_wp2_with fail
  refine (mgm_any (some ⟨zx, 0, none⟩) (some ⟨zy, 0, none⟩) n m kx ky (mi (srt xs) 0 0 n) (mi (srt ys) 100 0 m) _ (by simp) (by simp) (by omega) (by omega) (by omega) (by omega) HRx.out HRy.out (mi_srt xs 0 0 n HX.out) (mi_srt ys 100 0 m HY.out)).mono ?_
  rintro r w9 ⟨⟨v, rsp, rfl, hO, hl, hF⟩, hC⟩
  obtain ⟨zp, kp, rfl, hR, _, _, _⟩ := row_rd hO (by omega)
  have HRp := Lib.hid hR
  have HLp := Lib.hid hl
  have HKs := Lib.hid (keys_srt HX.out HY.out hF)
  have HC9 := Lib.hid (HC8.out.trans hC)
  have HR6 := Lib.hid (HR6.out.keep0 hC)
  clear hO hC hR hl hF
  go_wp2_with fail
  refine (dmKeys_any (some ⟨zp, 0, none⟩) (n + m) kp rsp _ HLp.out (by omega) HRp.out).mono ?_
  rintro r wa ⟨⟨v, rfl, hO⟩, hC⟩
  obtain ⟨za, ka, rfl, hR, _, _, _⟩ := row_rd hO (by omega)
  rw [HKs.out] at hR
  have HRa := Lib.hid hR
  have HCa := Lib.hid (HC9.out.trans hC)
  have HR6 := Lib.hid (HR6.out.keep0 hC)
  have HLs : Hid ((srt (xs ++ ys)).length = n + m) := Lib.hid (by rw [srt_len, List.length_append, HX.out, HY.out])
  clear hO hC hR
  go_wp2_with fail
  refine (equal_int A6 (some ⟨za, 0, none⟩) (n + m) (n + m) c6 ka (srt (xs ++ ys)) (srt (xs ++ ys)) _ HLs.out HLs.out (by omega) (by omega) HR6.out HRa.out).mono ?_
  rintro r wb ⟨rfl, hC⟩
  have e : decide (srt (xs ++ ys) = srt (xs ++ ys)) = true := by simp
  rw [e]
  have HCb := Lib.hid (HCa.out.trans hC)
  clear e hC
  go_wp2_with fail
  go_ret
  exact ⟨rfl, HCb.out⟩
end Go.Proofs.Ytbfcnimebdoagaa
