/- WALK: FnFHMerge. -/
import Derived.Test.YtbfcnimebdoagaaKC
namespace Go.Proofs.Ytbfcnimebdoagaa
open Go.RowKit
set_option linter.unusedVariables false
set_option linter.unusedSimpArgs false

theorem snoc_mrg {xs : List Int} (A : Option Addr) (m c : Nat) (ys : List Int) : hpCells (enqOf xs) ++ [.int .i64 6, .int .i64 0, .int .i64 0, .slice A m c] = hpCells (enqOf xs ++ [mrgS A m c ys]) := by
  rw [hp_snoc]; rfl
theorem own_sl {w : World} {base E sz n : Nat} {v : Value} {xs : List Value} (h : w.ownsRow base E sz v n xs) : ∃ A c, v = .slice A n c ∧ Rd w A xs ∧ ∀ b o, A = some ⟨b, o, none⟩ → base ≤ b ∧ b < w.heap.size := by
  obtain ⟨A, c, e, hr, _, hb, _, _⟩ := own_rd h
  exact ⟨A, c, e, hr, fun b o e => (hb b o none e).2⟩
set_option maxRecDepth 100000 in
set_option maxHeartbeats 8000000 in
theorem fhmerge_small (A B : Option Addr) (n m c c' : Nat) (xs ys : List Int) (w : World) (hx : xs.length = n) (hy : ys.length = m) (hn : n ≤ 2147483647) (hm : m ≤ 2147483647) (hA : Rd w A (sv xs)) (hB : Rd w B (sv ys)) (h1 : is16 xs) (h2 : is16 ys) :
    Calls Try.prog 4 #[.slice A n c, .slice B m c'] w fun r w' => r = .returned (.bool true) ∧ Ch S0 w w' := by
  have HX := Lib.hid hx
  have HY := Lib.hid hy
  have HA := Lib.hid hA
  have HB := Lib.hid hB
  have H16 := Lib.hid h1
  have H26 := Lib.hid h2
  clear hx hy hA hB h1 h2
  have hni : ¬ (2147483647 : Int) < (n : Nat) := by omega
  have hmi : ¬ (2147483647 : Int) < (m : Nat) := by omega
  have HF := Lib.hid (dxFew_any A n c w hn)
  have HF2 := Lib.hid (dxFew_any B m c' w hm)
  cases hf : few30 n
  · rw [hf] at HF
    clear hf HF2
    go_enter Try.func4, Try.ntmps4
    go_wp2_with fail
    refine HF.out.mono ?_
    rintro r w1 ⟨rfl, e1⟩
    rw [e1]
    clear e1
    go_wp2_with fail
    go_ret
    exact ⟨rfl, Ch.refl _ _⟩
  rw [hf] at HF
  cases hf2 : few30 m
  · rw [hf2] at HF2
    clear hf hf2
    go_enter Try.func4, Try.ntmps4
    go_wp2_with fail
    refine HF.out.mono ?_
    rintro r w1 ⟨rfl, e1⟩
    rw [e1]
    clear e1
    go_wp2_with fail
    refine HF2.out.mono ?_
    rintro r w2 ⟨rfl, e2⟩
    rw [e2]
    clear e2
    go_wp2_with fail
    go_ret
    exact ⟨rfl, Ch.refl _ _⟩
  rw [hf2] at HF2
  obtain ⟨h0, h30⟩ : 0 < n ∧ n ≤ 30 := by simpa [few30] using hf
  obtain ⟨g0, g30⟩ : 0 < m ∧ m ≤ 30 := by simpa [few30] using hf2
  clear hf hf2
  by_cases hn15 : 15 < n
  · have hi1 : (15 : Int) < (n : Nat) := by omega
    have hi1d : decide (15 < n) = true := by simp [hn15]
    go_enter Try.func4, Try.ntmps4
    go_wp2_with fail
    refine HF.out.mono ?_
    rintro r w1 ⟨rfl, e1⟩
    rw [e1]
    clear e1
    go_wp2_with fail
    refine HF2.out.mono ?_
    rintro r w2 ⟨rfl, e2⟩
    rw [e2]
    clear e2
    go_wp2_with fail
    go_ret
    exact ⟨rfl, Ch.refl _ _⟩
  have hi1 : ¬ (15 : Int) < (n : Nat) := by omega
  have hi1d : decide (15 < n) = false := by simp; omega
  by_cases hm15 : 15 < m
  · have hi2 : (15 : Int) < (m : Nat) := by omega
    have hi2d : decide (15 < m) = true := by simp [hm15]
    go_enter Try.func4, Try.ntmps4
    go_wp2_with fail
    refine HF.out.mono ?_
    rintro r w1 ⟨rfl, e1⟩
    rw [e1]
    clear e1
    go_wp2_with fail
    refine HF2.out.mono ?_
    rintro r w2 ⟨rfl, e2⟩
    rw [e2]
    clear e2
    go_wp2_with fail
    go_ret
    exact ⟨rfl, Ch.refl _ _⟩
  have hi2 : ¬ (15 : Int) < (m : Nat) := by omega
  have hi2d : decide (15 < m) = false := by simp; omega
  go_enter Try.func4, Try.ntmps4
  go_wp2_with fail
  refine HF.out.mono ?_
  rintro r w1 ⟨rfl, e1⟩
  rw [e1]
  clear e1
  go_wp2_with fail
  refine HF2.out.mono ?_
  rintro r w2 ⟨rfl, e2⟩
  rw [e2]
  clear e2
  go_wp2_with fail
  go_loopw [5, 46] (fun vo vi wr => ∃ i : Nat, i ≤ n ∧ vi = .int .i64 i ∧ wr.ownsRow w.heap.size 3 1 vo i (iv (xs.take i)) ∧ Ch S0 w wr) (fun _ vi _ => n - (intOf vi).toNat)
  case atStart => exact ⟨0, by omega, rfl, World.ownsRow_nil _ _ _ _, Ch.refl _ _⟩
  case round =>
    obtain ⟨i, hi, rfl, hO, hC⟩ := hrel
    have HO := Lib.hid hO
    have HC := Lib.hid hC
    clear hO hC
    by_cases hlt : i < n
    · have hlti : (i : Int) < (n : Nat) := by omega
      obtain ⟨x, hx⟩ : ∃ x, xs[i]? = some x := ⟨xs[i]'(by have := HX.out; omega), by simp [HX.out, hlt]⟩
      obtain ⟨q, o, hAe, c0⟩ := (HA.out.keep0 HC.out).at (sv_at hx)
      cases hAe
      obtain ⟨b1, b2⟩ := H16.out x (List.mem_of_getElem? hx)
      have HT := Lib.hid (iv_take_succ hx)
      have hsz := HC.out.size
      have hone : ∀ u ∈ [Value.int .i64 x], u.oneCell' = true := by intro u hu; simp only [List.mem_singleton] at hu; subst hu; rfl
      clear hx
      go_wp2_with (at_builtin; go_loud (refine app_own elInt rfl (.tmp 50) (.tmp 53) rfl w.heap.size i u5 (iv (xs.take i)) rfl HO.out [.int .i64 x] rfl hone _ rfl rfl (by unfold maxLen; omega) (by omega) hsz ?_); intro v' w4 hown4 hc4 hb4; have HOw := Lib.hid hown4; have HC4 := Lib.hid hc4; clear hown4 hc4 hb4)
      go_roundw
      case rel => exact ⟨i + 1, by omega, by go_num, by rw [HT.out]; exact HOw.out, HC.out.trans' HC4.out (fun j hj hs => absurd (own_lt HO.out j hs).1 (by omega))⟩
      case measure => simp [intOf]; omega
    · have hin : ¬ (i : Int) < (n : Nat) := by omega
      have hie : i = n := by omega
      have hO := HO.out
      rw [hie, ← HX.out, List.take_length, HX.out] at hO
      obtain ⟨Ax, cx, rfl, hRx, hbx⟩ := own_sl hO
      have HRx := Lib.hid hRx
      have HBx : Hid (∀ b o, Ax = some ⟨b, o, none⟩ → b < wr.heap.size) := Lib.hid (fun b o e => (hbx b o e).2)
      rw [hie]
      clear hO hRx hbx hie hlt hin hi
      obtain ⟨wS, hwS⟩ : ∃ W, W = wr := ⟨_, rfl⟩
      rw [← hwS]
      rw [← hwS] at HRx HBx HC
      clear hwS HO
      go_wp2_with fail
      go_loopw [6, 58] (fun vo vi wr => ∃ i : Nat, i ≤ m ∧ vi = .int .i64 i ∧ wr.ownsRow wS.heap.size 3 1 vo i (iv (ys.take i)) ∧ Ch S0 wS wr) (fun _ vi _ => m - (intOf vi).toNat)
      case atStart => exact ⟨0, by omega, rfl, World.ownsRow_nil _ _ _ _, Ch.refl _ _⟩
      case round =>
        obtain ⟨i, hi, rfl, hO, hC2⟩ := hrel
        have HO := Lib.hid hO
        have HC2 := Lib.hid hC2
        clear hO hC2
        by_cases hlt : i < m
        · have hlti : (i : Int) < (m : Nat) := by omega
          obtain ⟨x, hx⟩ : ∃ x, ys[i]? = some x := ⟨ys[i]'(by have := HY.out; omega), by simp [HY.out, hlt]⟩
          obtain ⟨q, o, hAe, c0⟩ := (HB.out.keep0 (HC.out.trans HC2.out)).at (sv_at hx)
          cases hAe
          obtain ⟨b1, b2⟩ := H26.out x (List.mem_of_getElem? hx)
          have HT := Lib.hid (iv_take_succ hx)
          have hsz := HC2.out.size
          have hone : ∀ u ∈ [Value.int .i64 x], u.oneCell' = true := by intro u hu; simp only [List.mem_singleton] at hu; subst hu; rfl
          clear hx
          go_wp2_with (at_builtin; go_loud (refine app_own elInt rfl (.tmp 62) (.tmp 65) rfl wS.heap.size i u6 (iv (ys.take i)) rfl HO.out [.int .i64 x] rfl hone _ rfl rfl (by unfold maxLen; omega) (by omega) hsz ?_); intro v' w4 hown4 hc4 hb4; have HOw := Lib.hid hown4; have HC4 := Lib.hid hc4; clear hown4 hc4 hb4)
          go_roundw
          case rel => exact ⟨i + 1, by omega, by go_num, by rw [HT.out]; exact HOw.out, HC2.out.trans' HC4.out (fun j hj hs => absurd (own_lt HO.out j hs).1 (by omega))⟩
          case measure => simp [intOf]; omega
        · have hin : ¬ (i : Int) < (m : Nat) := by omega
          have hie : i = m := by omega
          have hO := HO.out
          rw [hie, ← HY.out, List.take_length, HY.out] at hO
          obtain ⟨Ay, cy, rfl, hRy, hby⟩ := own_sl hO
          have HRy := Lib.hid hRy
          have HBy : Hid (∀ b o, Ay = some ⟨b, o, none⟩ → b < wr.heap.size) := Lib.hid (fun b o e => (hby b o e).2)
          have HRx := Lib.hid (HRx.out.keep0 HC2.out)
          have HBx : Hid (∀ b o, Ax = some ⟨b, o, none⟩ → b < wr.heap.size) := Lib.hid (fun b o e => Nat.lt_of_lt_of_le (HBx.out b o e) HC2.out.size)
          have HCw := Lib.hid (HC.out.trans HC2.out)
          rw [hie]
          clear hO hRy hby hie hlt hin hi HO
          have HBx0 := HBx
          have HBy0 := HBy
          go_wp2_with fail
          refine (dfEnq_any A n c xs _ HX.out (by omega) (HA.out.keep0 HCw.out) H16.out).mono ?_
          rintro r wpa ⟨vpa, rfl, hO, hC⟩
          have HOpa := Lib.hid hO
          have HRx := Lib.hid (HRx.out.keep0 hC)
          have HRy := Lib.hid (HRy.out.keep0 hC)
          have HBx : Hid (∀ b o, Ax = some ⟨b, o, none⟩ → b < wpa.heap.size) := Lib.hid (fun b o e => Nat.lt_of_lt_of_le (HBx.out b o e) hC.size)
          have HBy : Hid (∀ b o, Ay = some ⟨b, o, none⟩ → b < wpa.heap.size) := Lib.hid (fun b o e => Nat.lt_of_lt_of_le (HBy.out b o e) hC.size)
          have HVp := Lib.hid (fun k (e : vpa.ownBlock = some k) => (own_lt hO k e).1)
          have hb9 := hC.size
          have HCs := Lib.hid hC
          have HSep : Hid (∀ k, vpa.ownBlock = some k → ∀ b o, Ay = some ⟨b, o, none⟩ → k ≠ b) := Lib.hid (fun k e b o e2 => by have h1 := (own_lt hO k e).1; have h2 := HBy0.out b o e2; omega)
          have HSepX : Hid (∀ k, vpa.ownBlock = some k → ∀ b o, Ax = some ⟨b, o, none⟩ → k ≠ b) := Lib.hid (fun k e b o e2 => by have h1 := (own_lt hO k e).1; have h2 := HBx0.out b o e2; omega)
          have HSepY : Hid (∀ k, vpa.ownBlock = some k → ∀ b o, Ay = some ⟨b, o, none⟩ → k ≠ b) := Lib.hid (fun k e b o e2 => by have h1 := (own_lt hO k e).1; have h2 := HBy0.out b o e2; omega)
          have hone : ∀ u ∈ [Value.int .i64 6, .int .i64 0, .int .i64 0, .slice Ay m cy], u.oneCell' = true := by simp [Value.oneCell']
          have hm9 : n + 1 ≤ maxLen := by unfold maxLen; omega
          have hm8 : (n + 1) * 48 ≤ 140737488355328 := by omega
          clear hO hC
          go_wp2_with (at_builtin; go_loud (refine app_own elHs rfl (.tmp 75) (.tmp 78) rfl _ n vpa (hpCells (enqOf xs)) rfl HOpa.out [.int .i64 6, .int .i64 0, .int .i64 0, .slice Ay m cy] rfl hone _ rfl rfl hm9 hm8 hb9 ?_); intro v' wpb hown5 hc5 hb5; obtain ⟨A5, c5, rfl, hR5, hx5⟩ := own_sl hown5; clear hx5; have HR5 := Lib.hid hR5; have HC5 := Lib.hid hc5; clear hown5 hc5 hb5 hR5)
          have hR5 := HR5.out
          rw [snoc_mrg Ay m cy ys] at hR5
          have hC35 := HCs.out.trans' HC5.out (fun i hi e => by have := HVp.out i e; omega)
          have HRxB := HRx.out.keep HC5.out (fun b o e h => HSepX.out b h b o e rfl)
          have HRyB := HRy.out.keep HC5.out (fun b o e h => HSepY.out b h b o e rfl)
          refine (df_merge HX.out HY.out (by omega) (by omega) hR5 HRyB (fun b o e => Nat.lt_of_lt_of_le (HBy.out b o e) HC5.out.size) (is16_abs H16.out) (is16_abs H26.out)).mono ?_
          rintro r wpc ⟨⟨vpc, rfl, hO⟩, hC⟩
          obtain ⟨AP, cP, rfl, hR, hbP⟩ := own_sl hO
          have HRP := Lib.hid hR
          have HBP0 : Hid (∀ b o, AP = some ⟨b, o, none⟩ → b < wpc.heap.size) := Lib.hid (fun b o e => (own_lt hO b (by rw [e]; rfl)).2)
          have HRx := Lib.hid (HRxB.keep0 hC)
          have HRy := Lib.hid (HRyB.keep0 hC)
          have HCw := Lib.hid ((HCw.out.trans hC35).trans hC)
          have HBx : Hid (∀ b o, Ax = some ⟨b, o, none⟩ → b < wpc.heap.size) := Lib.hid (fun b o e => Nat.lt_of_lt_of_le (Nat.lt_of_lt_of_le (HBx.out b o e) HC5.out.size) hC.size)
          have HBy : Hid (∀ b o, Ay = some ⟨b, o, none⟩ → b < wpc.heap.size) := Lib.hid (fun b o e => Nat.lt_of_lt_of_le (Nat.lt_of_lt_of_le (HBy.out b o e) HC5.out.size) hC.size)
          clear hO hC hR hR5 hC35 HRxB HRyB hone hm9 hm8 hb9 hbP
          have HBx0 := HBx
          have HBy0 := HBy
          go_wp2_with fail
          refine (dfEnq_any B m c' ys _ HY.out (by omega) (HB.out.keep0 HCw.out) H26.out).mono ?_
          rintro r wqa ⟨vqa, rfl, hO, hC⟩
          have HOqa := Lib.hid hO
          have HRx := Lib.hid (HRx.out.keep0 hC)
          have HRy := Lib.hid (HRy.out.keep0 hC)
          have HRP := Lib.hid (HRP.out.keep0 hC)
          have HBx : Hid (∀ b o, Ax = some ⟨b, o, none⟩ → b < wqa.heap.size) := Lib.hid (fun b o e => Nat.lt_of_lt_of_le (HBx.out b o e) hC.size)
          have HBy : Hid (∀ b o, Ay = some ⟨b, o, none⟩ → b < wqa.heap.size) := Lib.hid (fun b o e => Nat.lt_of_lt_of_le (HBy.out b o e) hC.size)
          have HVq := Lib.hid (fun k (e : vqa.ownBlock = some k) => (own_lt hO k e).1)
          have hb9 := hC.size
          have HCs := Lib.hid hC
          have HSep : Hid (∀ k, vqa.ownBlock = some k → ∀ b o, Ax = some ⟨b, o, none⟩ → k ≠ b) := Lib.hid (fun k e b o e2 => by have h1 := (own_lt hO k e).1; have h2 := HBx0.out b o e2; omega)
          have HSepHRP : Hid (∀ k, vqa.ownBlock = some k → ∀ b o, AP = some ⟨b, o, none⟩ → k ≠ b) := Lib.hid (fun k e b o e2 => by have h1 := (own_lt hO k e).1; have h2 := HBP0.out b o e2; omega)
          have HSepX : Hid (∀ k, vqa.ownBlock = some k → ∀ b o, Ax = some ⟨b, o, none⟩ → k ≠ b) := Lib.hid (fun k e b o e2 => by have h1 := (own_lt hO k e).1; have h2 := HBx0.out b o e2; omega)
          have HSepY : Hid (∀ k, vqa.ownBlock = some k → ∀ b o, Ay = some ⟨b, o, none⟩ → k ≠ b) := Lib.hid (fun k e b o e2 => by have h1 := (own_lt hO k e).1; have h2 := HBy0.out b o e2; omega)
          have hone : ∀ u ∈ [Value.int .i64 6, .int .i64 0, .int .i64 0, .slice Ax n cx], u.oneCell' = true := by simp [Value.oneCell']
          have hm9 : m + 1 ≤ maxLen := by unfold maxLen; omega
          have hm8 : (m + 1) * 48 ≤ 140737488355328 := by omega
          clear hO hC
          go_wp2_with (at_builtin; go_loud (refine app_own elHs rfl (.tmp 86) (.tmp 89) rfl _ m vqa (hpCells (enqOf ys)) rfl HOqa.out [.int .i64 6, .int .i64 0, .int .i64 0, .slice Ax n cx] rfl hone _ rfl rfl hm9 hm8 hb9 ?_); intro v' wqb hown5 hc5 hb5; obtain ⟨A5, c5, rfl, hR5, hx5⟩ := own_sl hown5; clear hx5; have HR5 := Lib.hid hR5; have HC5 := Lib.hid hc5; clear hown5 hc5 hb5 hR5)
          have hR5 := HR5.out
          rw [snoc_mrg Ax n cx xs] at hR5
          have hC35 := HCs.out.trans' HC5.out (fun i hi e => by have := HVq.out i e; omega)
          have HRxB := HRx.out.keep HC5.out (fun b o e h => HSepX.out b h b o e rfl)
          have HRyB := HRy.out.keep HC5.out (fun b o e h => HSepY.out b h b o e rfl)
          have hd := df_merge (c := c5) HY.out HX.out (by omega) (by omega) hR5 HRxB (fun b o e => Nat.lt_of_lt_of_le (HBx.out b o e) HC5.out.size) (is16_abs H26.out) (is16_abs H16.out)
          rw [Int.add_comm (m : Int) n, Nat.add_comm m n] at hd
          refine hd.mono ?_
          rintro r wqc ⟨⟨vqc, rfl, hO⟩, hC⟩
          obtain ⟨AQ, cQ, rfl, hR, hbP⟩ := own_sl hO
          have HRQ := Lib.hid hR
          have HBQ0 : Hid (∀ b o, AQ = some ⟨b, o, none⟩ → b < wqc.heap.size) := Lib.hid (fun b o e => (own_lt hO b (by rw [e]; rfl)).2)
          have HBP0 : Hid (∀ b o, AP = some ⟨b, o, none⟩ → b < wqc.heap.size) := Lib.hid (fun b o e => Nat.lt_of_lt_of_le (HBP0.out b o e) (Nat.le_trans hC35.size hC.size))
          have HRx := Lib.hid (HRxB.keep0 hC)
          have HRy := Lib.hid (HRyB.keep0 hC)
          have HRP := Lib.hid ((HRP.out.keep HC5.out (fun b o e h => HSepHRP.out b h b o e rfl)).keep0 hC)
          have HCw := Lib.hid ((HCw.out.trans hC35).trans hC)
          have HBx : Hid (∀ b o, Ax = some ⟨b, o, none⟩ → b < wqc.heap.size) := Lib.hid (fun b o e => Nat.lt_of_lt_of_le (Nat.lt_of_lt_of_le (HBx.out b o e) HC5.out.size) hC.size)
          have HBy : Hid (∀ b o, Ay = some ⟨b, o, none⟩ → b < wqc.heap.size) := Lib.hid (fun b o e => Nat.lt_of_lt_of_le (Nat.lt_of_lt_of_le (HBy.out b o e) HC5.out.size) hC.size)
          clear hO hC hR hR5 hC35 HRxB HRyB hone hm9 hm8 hb9 hbP hd
          go_wp2_with fail
          refine (dfEnq_any A n c xs _ HX.out (by omega) (HA.out.keep0 HCw.out) H16.out).mono ?_
          rintro r wra ⟨vra, rfl, hO, hC⟩
          have HOra := Lib.hid hO
          have HRP := Lib.hid (HRP.out.keep0 hC)
          have HRQ := Lib.hid (HRQ.out.keep0 hC)
          have HVr := Lib.hid (fun k (e : vra.ownBlock = some k) => own_lt hO k e)
          have HCra := Lib.hid hC
          clear hO hC
          go_wp2_with fail
          refine (dfEnq_any B m c' ys _ HY.out (by omega) (HB.out.keep0 (HCw.out.trans HCra.out)) H26.out).mono ?_
          rintro r wrb ⟨vrb, rfl, hO, hC⟩
          have HOra := Lib.hid (own_keep0 HOra.out hC)
          have HRP := Lib.hid (HRP.out.keep0 hC)
          have HRQ := Lib.hid (HRQ.out.keep0 hC)
          obtain ⟨Ab, cb, rfl, hRb, hbb⟩ := own_sl hO
          have hab := hRb.lt (by rw [hpC_len, enqOf_len, HY.out]; omega)
          obtain ⟨qb, qo, rfl, _⟩ := hab
          have HRb := Lib.hid hRb
          have hb9 := Nat.le_trans HCra.out.size hC.size
          have HCrb := Lib.hid (HCra.out.trans hC)
          have HSP : Hid (∀ k, vra.ownBlock = some k → ∀ b o, AP = some ⟨b, o, none⟩ → k ≠ b) := Lib.hid (fun k e b o e2 => by have h1 := (HVr.out k e).1; have h2 := HBP0.out b o e2; omega)
          have HSQ : Hid (∀ k, vra.ownBlock = some k → ∀ b o, AQ = some ⟨b, o, none⟩ → k ≠ b) := Lib.hid (fun k e b o e2 => by have h1 := (HVr.out k e).1; have h2 := HBQ0.out b o e2; omega)
          have hl9 : (hpCells (enqOf ys)).length = m * 4 := by rw [hpC_len, enqOf_len, HY.out]
          have hone := hp_one (enqOf ys)
          have hm9 : n + m ≤ maxLen := by unfold maxLen; omega
          have hm8 : (n + m) * 48 ≤ 140737488355328 := by omega
          have HL9 := Lib.hid hl9
          have HOne := Lib.hid hone
          clear hO hC hRb hbb hl9 hone
          go_wp2_with (at_builtin; go_loud (refine app_all elHs rfl (.tmp 97) (.tmp 99) rfl _ n vra (hpCells (enqOf xs)) rfl HOra.out qb qo m cb (hpCells (enqOf ys)) HL9.out HOne.out rfl HRb.out hm9 hm8 hb9 ?_); intro v' wrc hown5 hc5 hb5 hni5; obtain ⟨A5, c5, rfl, hR5, hx5⟩ := own_sl hown5; clear hx5; have HR5 := Lib.hid hR5; have HC5 := Lib.hid hc5; clear hown5 hc5 hb5 hR5 hni5)
          have hR5 := HR5.out
          rw [show hpCells (enqOf xs) ++ hpCells (enqOf ys) = hpCells (enqOf (xs ++ ys)) by simp [hpCells, enqOf]] at hR5
          have hd := df_sorted (c := c5) (show (xs ++ ys).length = n + m by rw [List.length_append, HX.out, HY.out]) (by omega) hR5 (by omega) (fun x hx => by
            rcases List.mem_append.1 hx with h | h
            · exact is16_abs H16.out x h
            · exact is16_abs H26.out x h)
          rw [show (((n + m : Nat) : Int)) = (n : Int) + m from Int.natCast_add n m] at hd
          refine hd.mono ?_
          rintro r wrd ⟨⟨vrd, rfl, hO⟩, hC⟩
          obtain ⟨AR, cR, rfl, hR, hbR⟩ := own_sl hO
          have HRR := Lib.hid hR
          have HRP := Lib.hid ((HRP.out.keep HC5.out (fun b o e h => HSP.out b h b o e rfl)).keep0 hC)
          have HRQ := Lib.hid (by have := (HRQ.out.keep HC5.out (fun b o e h => HSQ.out b h b o e rfl)).keep0 hC; rw [srt_eq (List.perm_append_comm (l₁ := ys) (l₂ := xs))] at this; exact this)
          have HCw := Lib.hid ((HCw.out.trans (HCrb.out.trans' HC5.out (fun i hi e => by have := (HVr.out i e).1; omega))).trans hC)
          have HLs : Hid ((srt (xs ++ ys)).length = n + m) := Lib.hid (by rw [srt_len, List.length_append, HX.out, HY.out])
          have e : decide (srt (xs ++ ys) = srt (xs ++ ys)) = true := by simp
          obtain ⟨K, hK⟩ : ∃ K, K = srt (xs ++ ys) := ⟨_, rfl⟩
          rw [← hK] at HLs HRP HRQ HRR
          clear hO hC hR hbR hR5 hd e hm9 hm8 hb9 hK
          go_wp2_with fail
          refine (equal_int AP AQ (n + m) (n + m) cP cQ K K _ HLs.out HLs.out (by omega) (by omega) HRP.out HRQ.out).mono ?_
          rintro r wre ⟨rfl, hC⟩
          rw [show decide (K = K) = true by simp]
          have HRP := Lib.hid (HRP.out.keep0 hC)
          have HRR := Lib.hid (HRR.out.keep0 hC)
          have HCw := Lib.hid (HCw.out.trans hC)
          clear hC
          go_wp2_with fail
          refine (equal_int AP AR (n + m) (n + m) cP cR K K _ HLs.out HLs.out (by omega) (by omega) HRP.out HRR.out).mono ?_
          rintro r wrf ⟨rfl, hC⟩
          rw [show decide (K = K) = true by simp]
          have HCw := Lib.hid (HCw.out.trans hC)
          clear hC
          go_wp2_with fail
          go_ret
          exact ⟨rfl, HCw.out⟩
end Go.Proofs.Ytbfcnimebdoagaa
