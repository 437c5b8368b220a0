/- WALK: FnMGSides. (Printed by mkLS.py.) -/
import Derived.Test.YtbfcnimebdoagaaML
namespace Go.Proofs.Ytbfcnimebdoagaa
open Go.RowKit
set_option linter.unusedVariables false
set_option linter.unusedSimpArgs false

theorem final_keys {us ws rs ss : List El} (h1 : Final us rs) (h2 : Final ws ss) (h : (us.map Prod.fst).Perm (ws.map Prod.fst)) : rs.map Prod.fst = ss.map Prod.fst :=
  sorted_eq h1.2 h2.2 ((h1.1.map _).trans (h.trans (h2.1.map _).symm))
set_option maxRecDepth 100000 in
set_option maxHeartbeats 8000000 in
theorem sides_small (A B : Option Addr) (n m c c' : Nat) (xs ys : List Int) (w : World) (hx : xs.length = n) (hy : ys.length = m) (hn : n ≤ 2147483647) (hm : m ≤ 2147483647) (hA : Rd w A (sv xs)) (hB : Rd w B (sv ys)) (h1 : is16 xs) (h2 : is16 ys) :
    Calls Try.prog 6 #[.slice A n c, .slice B m c'] w fun r w' => r = .returned (.bool true) ∧ Ch S0 w w' := by
  have HX := Lib.hid hx
  have HY := Lib.hid hy
  have HA := Lib.hid hA
  have HB := Lib.hid hB
  have H16 := Lib.hid h1
  have H26 := Lib.hid h2
  clear hx hy hA hB h1 h2
  have hni : ¬ (2147483647 : Int) < (n : Nat) := by omega
  have hmi : ¬ (2147483647 : Int) < (m : Nat) := by omega
  cases hf : few30 n
  · have HF := Lib.hid (dxFew_any A n c w hn)
    rw [hf] at HF
    clear hf
    go_enter Try.func6, Try.ntmps6
    go_wp2_with fail
    refine HF.out.mono ?_
    rintro r w1 ⟨rfl, e1⟩
    rw [e1]
    clear e1
    go_wp2_with fail
    go_ret
    exact ⟨rfl, Ch.refl _ _⟩
  cases hf2 : few30 m
  · have HF := Lib.hid (dxFew_any A n c w hn)
    have HF2 := Lib.hid (dxFew_any B m c' w hm)
    rw [hf] at HF
    rw [hf2] at HF2
    clear hf hf2
    go_enter Try.func6, Try.ntmps6
    go_wp2_with fail
    refine HF.out.mono ?_
    rintro r w1 ⟨rfl, e1⟩
    rw [e1]
    clear e1
    go_wp2_with fail
    refine HF2.out.mono ?_
    rintro r w2 ⟨rfl, e2⟩
    rw [e2]
    clear e2
    go_wp2_with fail
    go_ret
    exact ⟨rfl, Ch.refl _ _⟩
  have HF := Lib.hid (dxFew_any A n c w hn)
  have HF2 := Lib.hid (dxFew_any B m c' w hm)
  rw [hf] at HF
  rw [hf2] at HF2
  obtain ⟨h0, h30⟩ : 0 < n ∧ n ≤ 30 := by simpa [few30] using hf
  obtain ⟨g0, g30⟩ : 0 < m ∧ m ≤ 30 := by simpa [few30] using hf2
  clear hf hf2
  go_enter Try.func6, Try.ntmps6
  go_wp2_with fail
  refine HF.out.mono ?_
  rintro r w1 ⟨rfl, e1⟩
  rw [e1]
  clear e1
  go_wp2_with fail
  refine HF2.out.mono ?_
  rintro r w2 ⟨rfl, e2⟩
  rw [e2]
  clear e2
  go_wp2_with fail
  refine (dmItems_any A n c 0 0 xs _ HX.out (by omega) (by omega) (by omega) (by omega) HA.out H16.out).mono ?_
  rintro r w3 ⟨⟨v, rfl, hO⟩, hC⟩
  obtain ⟨zx, kx, rfl, hR, _, _, _⟩ := row_rd hO (by omega)
  have HRx := Lib.hid hR
  have HCw3 := Lib.hid hC
  clear hO hC hR
  go_wp2_with fail
  refine (dmItems_any B m c' 100 0 ys _ HY.out (by omega) (by omega) (by omega) (by omega) (HB.out.keep0 HCw3.out) H26.out).mono ?_
  rintro r w4 ⟨⟨v, rfl, hO⟩, hC⟩
  obtain ⟨zy, ky, rfl, hR, _, _, _⟩ := row_rd hO (by omega)
  have HRy := Lib.hid hR
  have HCw4 := Lib.hid (HCw3.out.trans hC)
  have HRx := Lib.hid (HRx.out.keep0 hC)
  clear hO hC hR
  go_wp2_with fail
  refine (merge_any (some ⟨zx, 0, none⟩) (some ⟨zy, 0, none⟩) n m kx ky (mi (srt xs) 0 0 n) (mi (srt ys) 100 0 m) _ (by simp) (by simp) (by omega) (by omega) (by omega) (by omega) HRx.out HRy.out (mi_srt xs 0 0 n HX.out) (mi_srt ys 100 0 m HY.out)).mono ?_
  rintro r w5 ⟨⟨v, rsp, rfl, hO, hl, hF⟩, hC⟩
  obtain ⟨zp, kp, rfl, hR, _, _, _⟩ := row_rd hO (by omega)
  have HRp := Lib.hid hR
  have HLp := Lib.hid hl
  have HFp := Lib.hid hF
  have HCw5 := Lib.hid (HCw4.out.trans hC)
  have HRx := Lib.hid (HRx.out.keep0 hC)
  have HRy := Lib.hid (HRy.out.keep0 hC)
  clear hO hC hR hl hF
  go_wp2_with fail
  refine (dmKeys_any (some ⟨zp, 0, none⟩) (n + m) kp rsp _ HLp.out (by omega) HRp.out).mono ?_
  rintro r w6 ⟨⟨v, rfl, hO⟩, hC⟩
  obtain ⟨za, ka, rfl, hR, _, _, _⟩ := row_rd hO (by omega)
  have HRa := Lib.hid hR
  have HCw6 := Lib.hid (HCw5.out.trans hC)
  have HRx := Lib.hid (HRx.out.keep0 hC)
  have HRy := Lib.hid (HRy.out.keep0 hC)
  clear hO hC hR
  go_wp2_with fail
  refine (merge_any (some ⟨zy, 0, none⟩) (some ⟨zx, 0, none⟩) m n ky kx (mi (srt ys) 100 0 m) (mi (srt xs) 0 0 n) _ (by simp) (by simp) (by omega) (by omega) (by omega) (by omega) HRy.out HRx.out (mi_srt ys 100 0 m HY.out) (mi_srt xs 0 0 n HX.out)).mono ?_
  rintro r w7 ⟨⟨v, rsq, rfl, hO, hl, hF⟩, hC⟩
  obtain ⟨zq, kq, rfl, hR, _, _, _⟩ := row_rd hO (by omega)
  have HRq := Lib.hid hR
  have HLq := Lib.hid hl
  have HFq := Lib.hid hF
  have HCw7 := Lib.hid (HCw6.out.trans hC)
  have HRa := Lib.hid (HRa.out.keep0 hC)
  clear hO hC hR hl hF
  go_wp2_with fail
  refine (dmKeys_any (some ⟨zq, 0, none⟩) (m + n) kq rsq _ HLq.out (by omega) HRq.out).mono ?_
  rintro r w8 ⟨⟨v, rfl, hO⟩, hC⟩
  obtain ⟨zb, kb, rfl, hR, _, _, _⟩ := row_rd hO (by omega)
  have HRb := Lib.hid hR
  have HCw8 := Lib.hid (HCw7.out.trans hC)
  have HRa := Lib.hid (HRa.out.keep0 hC)
  clear hO hC hR
  have hab : rsp.map Prod.fst = rsq.map Prod.fst := final_keys HFp.out HFq.out (List.perm_append_comm.map _)
  have hla : (rsp.map Prod.fst).length = n + m := by rw [List.length_map, HLp.out]
  have hlb : (rsp.map Prod.fst).length = m + n := by rw [hla, Nat.add_comm]
  have HRb := Lib.hid (by have := HRb.out; rwa [← hab] at this : Rd w8 (some ⟨zb, 0, none⟩) (iv (rsp.map Prod.fst)))
  have HSa := Lib.hid HFp.out.2
  obtain ⟨K, hK⟩ : ∃ K, rsp.map Prod.fst = K := ⟨_, rfl⟩
  rw [hK] at hla hlb HRa HRb HSa
  have HLa := Lib.hid hla
  have HLb := Lib.hid hlb
  clear hab hla hlb hK
  go_wp2_with fail
  refine (awake_any _).mono ?_
  rintro r w9 ⟨rfl, hC⟩
  have HRa := Lib.hid (HRa.out.keep0 hC)
  have HRb := Lib.hid (HRb.out.keep0 hC)
  have HCw9 := Lib.hid (HCw8.out.trans hC)
  clear hC
  go_wp2_with fail
  refine (equal_int (some ⟨za, 0, none⟩) (some ⟨zb, 0, none⟩) (n + m) (m + n) ka kb K K _ HLa.out HLb.out (by omega) (by omega) HRa.out HRb.out).mono ?_
  rintro r wa ⟨rfl, hC⟩
  have e : decide (K = K) = true := by simp
  rw [e]
  have HRa := Lib.hid (HRa.out.keep0 hC)
  have HCwa := Lib.hid (HCw9.out.trans hC)
  clear e hC
  have hsum : ((n : Int) + (m : Int) == (n : Int) + (m : Int)) = true := by simp
  go_wp2_with fail
  refine (sorted_yes (some ⟨za, 0, none⟩) (n + m) ka K _ HLa.out (by omega) (by omega) HRa.out HSa.out).mono ?_
  rintro r wb ⟨rfl, hC⟩
  have HCwb := Lib.hid (HCwa.out.trans hC)
  clear hC
  go_wp2_with fail
  go_ret
  exact ⟨rfl, HCwb.out⟩
end Go.Proofs.Ytbfcnimebdoagaa
