/- WALK: FnMGShift. (Printed by mkLS.py.) -/
import Derived.Test.YtbfcnimebdoagaaML
namespace Go.Proofs.Ytbfcnimebdoagaa
open Go.RowKit
set_option linter.unusedVariables false
set_option linter.unusedSimpArgs false

theorem final_keys {us ws rs ss : List El} (h1 : Final us rs) (h2 : Final ws ss) (h : (us.map Prod.fst).Perm (ws.map Prod.fst)) : rs.map Prod.fst = ss.map Prod.fst :=
  sorted_eq h1.2 h2.2 ((h1.1.map _).trans (h.trans (h2.1.map _).symm))
theorem tags_nodup {xs ys : List Int} {n m : Nat} {b : Int} {rs : List El} (hn : n ≤ 30) (hm : m ≤ 30) (h : Final (mi xs 0 b n ++ mi ys 100 b m) rs) : (rs.map Prod.snd).Nodup := by
  have h1 := h.1.map Prod.snd
  rw [List.map_append, mi_tags, mi_tags] at h1
  refine h1.nodup_iff.2 (List.nodup_append.2 ⟨?_, ?_, ?_⟩)
  · rw [List.Nodup, List.pairwise_map]
    exact (List.nodup_range (n := n)).imp fun hne e => hne (by omega)
  · rw [List.Nodup, List.pairwise_map]
    exact (List.nodup_range (n := m)).imp fun hne e => hne (by omega)
  · intro x hx y hy
    simp only [List.mem_map, List.mem_range] at hx hy
    obtain ⟨i, hi, rfl⟩ := hx
    obtain ⟨j, hj, rfl⟩ := hy
    omega
theorem keys_small {xs ys : List Int} {n m : Nat} {rs : List El} (hx : xs.length = n) (hy : ys.length = m) (h1 : is16 xs) (h2 : is16 ys) (h : Final (mi (srt xs) 0 0 n ++ mi (srt ys) 100 0 m) rs) : ∀ x ∈ rs.map Prod.fst, -1000000000 ≤ x ∧ x ≤ 1000000000 := by
  intro x hxm
  have h3 := (h.1.map Prod.fst).subset hxm
  have e1 : n = (srt xs).length := by rw [srt_len, hx]
  have e2 : m = (srt ys).length := by rw [srt_len, hy]
  rw [List.map_append, e1, e2, mi_keys, mi_keys] at h3
  rcases List.mem_append.1 h3 with h3 | h3
  · simp only [List.mem_map] at h3
    obtain ⟨y, hy, rfl⟩ := h3
    have := h1 y ((srt_perm xs).subset hy)
    omega
  · simp only [List.mem_map] at h3
    obtain ⟨y, hy, rfl⟩ := h3
    have := h2 y ((srt_perm ys).subset hy)
    omega
theorem shift_keys {xs ys : List Int} {n m : Nat} {b : Int} {rs ss : List El} (hx : xs.length = n) (hy : ys.length = m) (h : Final (mi (srt xs) 0 0 n ++ mi (srt ys) 100 0 m) rs) (h' : Final (mi (srt xs) 0 b n ++ mi (srt ys) 100 b m) ss) : (rs.map Prod.fst).map (· + b) = ss.map Prod.fst := by
  have e1 : n = (srt xs).length := by rw [srt_len, hx]
  have e2 : m = (srt ys).length := by rw [srt_len, hy]
  refine sorted_eq ?_ h'.2 ?_
  · rw [List.pairwise_map]
    exact h.2.imp fun h => by omega
  · have p1 := (h.1.map Prod.fst).map (· + b)
    have p2 := (h'.1.map Prod.fst).symm
    rw [List.map_append, e1, e2, mi_keys, mi_keys] at p1 p2
    refine p1.trans (List.Perm.trans ?_ p2)
    simp
theorem not_mem_take {l : List Int} {i : Nat} {x : Int} (h : l.Nodup) (hx : l[i]? = some x) : x ∉ l.take i := by
  obtain ⟨hi, e⟩ := List.getElem?_eq_some_iff.1 hx
  intro hm
  obtain ⟨j, hj, e2⟩ := List.mem_iff_getElem.1 hm
  rw [List.length_take] at hj
  rw [List.getElem_take] at e2
  have := (List.pairwise_iff_getElem.1 h) j i (by omega) hi (by omega)
  exact this (by rw [e2, e])
set_option maxRecDepth 100000 in
set_option maxHeartbeats 8000000 in
theorem shift_small (A B : Option Addr) (n m c c' : Nat) (xs ys : List Int) (b : Int) (w : World) (hx : xs.length = n) (hy : ys.length = m) (hn : n ≤ 2147483647) (hm : m ≤ 2147483647) (hA : Rd w A (sv xs)) (hB : Rd w B (sv ys)) (h1 : is16 xs) (h2 : is16 ys) (hb1 : -32768 ≤ b) (hb2 : b ≤ 32767) :
    Calls Try.prog 7 #[.slice A n c, .slice B m c', .int .i16 b] w fun r w' => r = .returned (.bool true) ∧ Ch S0 w w' := by
  have HX := Lib.hid hx
  have HY := Lib.hid hy
  have HA := Lib.hid hA
  have HB := Lib.hid hB
  have H16 := Lib.hid h1
  have H26 := Lib.hid h2
  clear hx hy hA hB h1 h2
  have hni : ¬ (2147483647 : Int) < (n : Nat) := by omega
  have hmi : ¬ (2147483647 : Int) < (m : Nat) := by omega
  cases hf : few30 n
  · have HF := Lib.hid (dxFew_any A n c w hn)
    rw [hf] at HF
    clear hf
    go_enter Try.func7, Try.ntmps7
    go_wp2_with fail
    refine HF.out.mono ?_
    rintro r w1 ⟨rfl, e1⟩
    rw [e1]
    clear e1
    go_wp2_with fail
    go_ret
    exact ⟨rfl, Ch.refl _ _⟩
  cases hf2 : few30 m
  · have HF := Lib.hid (dxFew_any A n c w hn)
    have HF2 := Lib.hid (dxFew_any B m c' w hm)
    rw [hf] at HF
    rw [hf2] at HF2
    clear hf hf2
    go_enter Try.func7, Try.ntmps7
    go_wp2_with fail
    refine HF.out.mono ?_
    rintro r w1 ⟨rfl, e1⟩
    rw [e1]
    clear e1
    go_wp2_with fail
    refine HF2.out.mono ?_
    rintro r w2 ⟨rfl, e2⟩
    rw [e2]
    clear e2
    go_wp2_with fail
    go_ret
    exact ⟨rfl, Ch.refl _ _⟩
  have HF := Lib.hid (dxFew_any A n c w hn)
  have HF2 := Lib.hid (dxFew_any B m c' w hm)
  rw [hf] at HF
  rw [hf2] at HF2
  obtain ⟨h0, h30⟩ : 0 < n ∧ n ≤ 30 := by simpa [few30] using hf
  obtain ⟨g0, g30⟩ : 0 < m ∧ m ≤ 30 := by simpa [few30] using hf2
  clear hf hf2
  go_enter Try.func7, Try.ntmps7
  go_wp2_with fail
  refine HF.out.mono ?_
  rintro r w1 ⟨rfl, e1⟩
  rw [e1]
  clear e1
  go_wp2_with fail
  refine HF2.out.mono ?_
  rintro r w2 ⟨rfl, e2⟩
  rw [e2]
  clear e2
  go_wp2_with fail
  refine (dmItems_any A n c 0 0 xs _ HX.out (by omega) (by omega) (by omega) (by omega) HA.out H16.out).mono ?_
  rintro r w3 ⟨⟨v, rfl, hO⟩, hC⟩
  obtain ⟨zx, kx, rfl, hR, _, _, _⟩ := row_rd hO (by omega)
  have HRx := Lib.hid hR
  have HCw3 := Lib.hid hC
  clear hO hC hR
  go_wp2_with fail
  refine (dmItems_any B m c' 100 0 ys _ HY.out (by omega) (by omega) (by omega) (by omega) (HB.out.keep0 HCw3.out) H26.out).mono ?_
  rintro r w4 ⟨⟨v, rfl, hO⟩, hC⟩
  obtain ⟨zy, ky, rfl, hR, _, _, _⟩ := row_rd hO (by omega)
  have HRy := Lib.hid hR
  have HCw4 := Lib.hid (HCw3.out.trans hC)
  have HRx := Lib.hid (HRx.out.keep0 hC)
  clear hO hC hR
  go_wp2_with fail
  refine (merge_any (some ⟨zx, 0, none⟩) (some ⟨zy, 0, none⟩) n m kx ky (mi (srt xs) 0 0 n) (mi (srt ys) 100 0 m) _ (by simp) (by simp) (by omega) (by omega) (by omega) (by omega) HRx.out HRy.out (mi_srt xs 0 0 n HX.out) (mi_srt ys 100 0 m HY.out)).mono ?_
  rintro r w5 ⟨⟨v, rsp, rfl, hO, hl, hF⟩, hC⟩
  obtain ⟨zp, kp, rfl, hR, _, _, _⟩ := row_rd hO (by omega)
  have HRp := Lib.hid hR
  have HLp := Lib.hid hl
  have HFp := Lib.hid hF
  have HCw5 := Lib.hid (HCw4.out.trans hC)
  clear hO hC hR hl hF
  go_wp2_with fail
  refine (dmItems_any A n c 0 b xs _ HX.out (by omega) (by omega) (by omega) (by omega) (HA.out.keep0 HCw5.out) H16.out).mono ?_
  rintro r w6 ⟨⟨v, rfl, hO⟩, hC⟩
  obtain ⟨zu, ku, rfl, hR, _, _, _⟩ := row_rd hO (by omega)
  have HRu := Lib.hid hR
  have HCw6 := Lib.hid (HCw5.out.trans hC)
  have HRp := Lib.hid (HRp.out.keep0 hC)
  clear hO hC hR
  go_wp2_with fail
  refine (dmItems_any B m c' 100 b ys _ HY.out (by omega) (by omega) (by omega) (by omega) (HB.out.keep0 HCw6.out) H26.out).mono ?_
  rintro r w7 ⟨⟨v, rfl, hO⟩, hC⟩
  obtain ⟨zv, kv, rfl, hR, _, _, _⟩ := row_rd hO (by omega)
  have HRv := Lib.hid hR
  have HCw7 := Lib.hid (HCw6.out.trans hC)
  have HRp := Lib.hid (HRp.out.keep0 hC)
  have HRu := Lib.hid (HRu.out.keep0 hC)
  clear hO hC hR
  go_wp2_with fail
  refine (merge_any (some ⟨zu, 0, none⟩) (some ⟨zv, 0, none⟩) n m ku kv (mi (srt xs) 0 b n) (mi (srt ys) 100 b m) _ (by simp) (by simp) (by omega) (by omega) (by omega) (by omega) HRu.out HRv.out (mi_srt xs 0 b n HX.out) (mi_srt ys 100 b m HY.out)).mono ?_
  rintro r w8 ⟨⟨v, rsq, rfl, hO, hl, hF⟩, hC⟩
  obtain ⟨zq, kq, rfl, hR, _, _, _⟩ := row_rd hO (by omega)
  have HRq := Lib.hid hR
  have HLq := Lib.hid hl
  have HFq := Lib.hid hF
  have HCw8 := Lib.hid (HCw7.out.trans hC)
  have HRp := Lib.hid (HRp.out.keep0 hC)
  clear hO hC hR hl hF
  go_wp2_with fail
  refine (awake_any _).mono ?_
  rintro r w9 ⟨rfl, hC⟩
  have HRp := Lib.hid (HRp.out.keep0 hC)
  have HRq := Lib.hid (HRq.out.keep0 hC)
  have HCw9 := Lib.hid (HCw8.out.trans hC)
  clear hC
  go_wp2_with fail
  refine (dmKeys_any (some ⟨zp, 0, none⟩) (n + m) kp rsp _ HLp.out (by omega) HRp.out).mono ?_
  rintro r wa ⟨⟨v, rfl, hO⟩, hC⟩
  obtain ⟨za, ka, rfl, hR, _, _, _⟩ := row_rd hO (by omega)
  have HRa := Lib.hid hR
  have HCwa := Lib.hid (HCw9.out.trans hC)
  have HRp := Lib.hid (HRp.out.keep0 hC)
  have HRq := Lib.hid (HRq.out.keep0 hC)
  clear hO hC hR
  have hla : (rsp.map Prod.fst).length = n + m := by rw [List.length_map, HLp.out]
  have HLa := Lib.hid hla
  clear hla
  go_wp2_with fail
  refine (dxPlus_any (some ⟨za, 0, none⟩) (n + m) ka (rsp.map Prod.fst) b _ HLa.out (by omega) HRa.out (keys_small HX.out HY.out H16.out H26.out HFp.out) (by omega) (by omega)).mono ?_
  rintro r wb ⟨v, rfl, hO, hC⟩
  obtain ⟨zc, kc, rfl, hR, _, _, _⟩ := row_rd hO (by omega)
  rw [shift_keys HX.out HY.out HFp.out HFq.out] at hR
  have HRc := Lib.hid hR
  have HCwb := Lib.hid (HCwa.out.trans hC)
  have HRp := Lib.hid (HRp.out.keep0 hC)
  have HRq := Lib.hid (HRq.out.keep0 hC)
  clear hO hC hR
  go_wp2_with fail
  refine (dmKeys_any (some ⟨zq, 0, none⟩) (n + m) kq rsq _ HLq.out (by omega) HRq.out).mono ?_
  rintro r wc ⟨⟨v, rfl, hO⟩, hC⟩
  obtain ⟨zd, kd, rfl, hR, _, _, _⟩ := row_rd hO (by omega)
  have HRd := Lib.hid hR
  have HCwc := Lib.hid (HCwb.out.trans hC)
  have HRp := Lib.hid (HRp.out.keep0 hC)
  have HRc := Lib.hid (HRc.out.keep0 hC)
  clear hO hC hR
  have hld : (rsq.map Prod.fst).length = n + m := by rw [List.length_map, HLq.out]
  have HLd := Lib.hid hld
  clear hld
  go_wp2_with fail
  refine (equal_int (some ⟨zc, 0, none⟩) (some ⟨zd, 0, none⟩) (n + m) (n + m) kc kd _ _ _ HLd.out HLd.out (by omega) (by omega) HRc.out HRd.out).mono ?_
  rintro r wd ⟨rfl, hC⟩
  have e : decide (rsq.map Prod.fst = rsq.map Prod.fst) = true := by simp
  rw [e]
  have HRp := Lib.hid (HRp.out.keep0 hC)
  have HCwd := Lib.hid (HCwc.out.trans hC)
  clear e hC
  have HNd := Lib.hid (tags_nodup h30 g30 HFp.out)
  obtain ⟨N, hN⟩ : ∃ N, N = n + m := ⟨_, rfl⟩
  have hNi : (n : Int) + (m : Int) = (N : Nat) := by omega
  have hNN : ((N : Int) == (N : Nat)) = true := by simp
  have hN60 : N ≤ 60 := by omega
  have hlp := HLp.out
  rw [← hN] at hlp ⊢
  have HLP := Lib.hid hlp
  clear hN hlp
  go_wp2_with fail
  go_loopw [9, 57] (fun vo vi wr => ∃ i : Nat, i ≤ N ∧ vi = .int .i64 i ∧ wr.ownsRow wd.heap.size 3 1 vo i (iv ((rsp.map Prod.snd).take i)) ∧ Ch S0 wd wr) (fun _ vi _ => N - (intOf vi).toNat)
  case atStart => exact ⟨0, by omega, rfl, World.ownsRow_nil _ _ _ _, Ch.refl _ _⟩
  case round =>
    obtain ⟨i, hi, rfl, hO, hC⟩ := hrel
    have HO := Lib.hid hO
    have HC := Lib.hid hC
    have hsz := hC.size
    obtain ⟨A9, c9, rfl, hR9, _, _, _, _⟩ := own_rd hO
    have HR9 := Lib.hid hR9
    clear hO hC hR9
    by_cases hlt : i < N
    · have hlti : (i : Int) < (N : Nat) := by omega
      have hi0 : (0 : Int) ≤ (i : Nat) := by omega
      obtain ⟨x, hx⟩ : ∃ x, rsp[i]? = some x := ⟨rsp[i]'(by have := HLP.out; omega), by simp [HLP.out, hlt]⟩
      obtain ⟨q, o, e, c0, c1⟩ := rd_pv (HRp.out.keep0 HC.out) hx
      cases e
      rw [Nat.zero_add] at c0 c1
      have hxs : (rsp.map Prod.snd)[i]? = some x.2 := by simp [hx]
      have HT := Lib.hid (take_one hxs)
      have HNm := Lib.hid (not_mem_take HNd.out hxs)
      have HTl : Hid (((rsp.map Prod.snd).take i).length = i) := Lib.hid (by rw [List.length_take, List.length_map, HLP.out]; omega)
      clear hx hxs
      obtain ⟨x1, x2⟩ := x
      simp only at c0 c1
      obtain ⟨wo, hwo⟩ : ∃ wo, wo = wr.alloc (.cells #[.int .i64 x1, .int .i64 x2] 48) := ⟨_, rfl⟩
      have hCo : Ch S0 wr wo := by rw [hwo]; exact (Ch.refl S0 wr).alloc _
      have hBo : Blk wo wr.heap.size #[.int .i64 x1, .int .i64 x2] := by rw [hwo]; exact Blk.new wr _ _
      have HCon := Lib.hid (contains_any A9 i c9 _ x2 wo HTl.out (by omega) (HR9.out.keep0 hCo) HNm.out)
      have HWo := Lib.hid hwo
      have HCo := Lib.hid hCo
      have HBo := Lib.hid hBo
      clear hwo hCo hBo
      go_wp2_with (first | (rw [← HWo.out]; refine HCon.out.mono ?_; rintro r wp ⟨rfl, hCp⟩; have hb := HBo.out.keep hCp (fun h => h); have c3 := hb.cell 1; simp only [List.getElem?_toArray, List.getElem?_cons_zero, List.getElem?_cons_succ] at c3; have hszp := hCp.size; have HCp := Lib.hid hCp; have HOp := Lib.hid ((own_keep0 (own_keep0 HO.out HCo.out) hCp)); clear hb hCp) | (at_builtin; go_loud (refine app_own elInt rfl (.tmp 65) (.tmp 68) rfl wd.heap.size i (.slice A9 i c9) _ rfl HOp.out [.int .i64 x2] rfl (by simp [Value.oneCell']) _ rfl rfl (by unfold maxLen; omega) (by omega) (by have := HCo.out.size; omega) ?_); intro v' w4 hown4 hc4 hb4; have HOw := Lib.hid hown4; have HC4 := Lib.hid hc4; clear hown4 hc4 hb4))
      go_roundw
      case rel => exact ⟨i + 1, by omega, by go_num, by rw [HT.out, iv_snoc]; exact HOw.out, ((HC.out.trans HCo.out).trans HCp.out).trans' HC4.out (fun j hj e => absurd (own_lt HO.out j e).1 (by omega))⟩
      case measure => simp [intOf]; omega
    · have hin : ¬ (i : Int) < (N : Nat) := by omega
      have hie : i = N := by omega
      subst hie
      go_wp2_with fail
      go_ret
      exact ⟨rfl, HCwd.out.trans HC.out⟩
end Go.Proofs.Ytbfcnimebdoagaa
