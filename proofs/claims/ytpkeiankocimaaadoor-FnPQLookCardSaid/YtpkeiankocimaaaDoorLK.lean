/- WALK: FnPQLook. -/
import Derived.Test.YtpkeiankocimaaaDoorK3
import Derived.BigQuiet
import Derived.Deep.CutBlock
namespace Go.Proofs.YtpkeiankocimaaaDoor
open Go.RowKit
set_option linter.unusedVariables false
set_option linter.unusedSimpArgs false

def nop (op : Int) : St := ⟨op, 0, none, 0, 0, []⟩
def five : List St := [nop 3, nop 5, nop 7, nop 4, tk 1]
def fivesN (i : Nat) : List St := (List.replicate i five).flatten
theorem five_is : Five five := ⟨_, _, _, _, _, rfl, rfl, rfl, rfl, rfl, isGet_tk 1⟩
theorem fivesN_succ (i : Nat) : fivesN (i + 1) = fivesN i ++ five := by
  unfold fivesN
  rw [List.replicate_succ', List.flatten_append]
  simp
theorem fivesN_len (i : Nat) : (fivesN i).length = 5 * i := by
  induction i with
  | zero => rfl
  | succ i ih => rw [fivesN_succ, List.length_append, ih]; simp [five]; omega
theorem fivesN_st (w : World) (av : Nat → Prop) : ∀ i, ∀ s ∈ fivesN i, St1 w av s
  | 0, s, h => by simp [fivesN] at h
  | i + 1, s, h => by
    rw [fivesN_succ] at h
    rcases List.mem_append.1 h with h | h
    · exact fivesN_st w av i s h
    · simp only [five, List.mem_cons, List.not_mem_nil, or_false] at h
      rcases h with rfl | rfl | rfl | rfl | rfl <;> exact ⟨rfl, Rd.nil _ _, fun b o e => by cases e⟩
/-- What stands at the i-th five. -/
theorem fives_at : ∀ {S : List Int} {l : List Sd}, FivesSaid S l → ∀ i, i < S.length → ∃ d3 d5 d7 d4 d2 k t t', l[5 * i]? = some d3 ∧ l[5 * i + 1]? = some d5 ∧ l[5 * i + 2]? = some d7 ∧ l[5 * i + 3]? = some d4 ∧ l[5 * i + 4]? = some d2 ∧ S[i]? = some k ∧ d3.items = [(k, t)] ∧ d2.items = [(k, t')] ∧ d5.is = false ∧ d7.is = false ∧ d4.n = (S.length - i : Nat)
  | k :: S, l, h, 0, _ => by
    obtain ⟨l1, l2, rfl, ⟨d3, d5, d7, d4, d2, rfl, ⟨k', t, t', hk, h3, h2⟩, h5, h7, h4⟩, _⟩ := h
    have hk : k = k' := by simpa using hk
    subst hk
    exact ⟨d3, d5, d7, d4, d2, k, t, t', rfl, rfl, rfl, rfl, rfl, rfl, h3, h2, h5, h7, by rw [h4]; rfl⟩
  | k :: S, l, h, i + 1, hi => by
    obtain ⟨l1, l2, rfl, ⟨e3, e5, e7, e4, e2, rfl, _⟩, h'⟩ := h
    obtain ⟨d3, d5, d7, d4, d2, k', t, t', g3, g5, g7, g4, g2, hk, h3, h2, h5, h7, h4⟩ := fives_at h' i (by simpa using hi)
    have e : ∀ j, ([e3, e5, e7, e4, e2] ++ l2)[5 * (i + 1) + j]? = l2[5 * i + j]? := fun j => by
      rw [List.getElem?_append_right (by simp; omega)]
      congr 1
      simp
      omega
    refine ⟨d3, d5, d7, d4, d2, k', t, t', (e 0).trans g3, (e 1).trans g5, (e 2).trans g7, (e 3).trans g4, (e 4).trans g2, by simpa using hk, h3, h2, h5, h7, ?_⟩
    rw [h4]
    simp

theorem sd_cell {w : World} {b P u O : Nat} {ds : List Sd} {d : Sd} (h : Rd w (some ⟨b, 0, none⟩) (sdCells ds)) (hj : ds[P + u]? = some d) (hO : O = P * 4 + u * 4) : w.cell? ⟨b, O, none⟩ = some (.slice d.A d.len d.cap) ∧ w.cell? ⟨b, O + 1, none⟩ = some (.int .i64 d.n) ∧ w.cell? ⟨b, O + 2, none⟩ = some (.bool d.is) := by
  obtain ⟨_, _, e, h0, h1, h2, _⟩ := rd_sd h hj
  cases e
  have e : 0 + (P + u) * 4 = O := by rw [hO, Nat.add_mul]; omega
  rw [e] at h0 h1 h2
  exact ⟨h0, h1, h2⟩
set_option maxRecDepth 100000 in
set_option maxHeartbeats 8000000 in
theorem look_small (A : Option Addr) (n c : Nat) (xs : List Int) (w : World) (hx : xs.length = n) (hn : n ≤ 2147483647) (hA : Rd w A (sv xs)) (h1 : is16 xs) :
    Calls Tryd.prog 3 #[.slice A n c] w fun r w' => r = .returned (.bool true) ∧ Ch S0 w w' := by
  have HX := Lib.hid hx
  have HA := Lib.hid hA
  have H16 := Lib.hid h1
  clear hx hA h1
  have hni : ¬ (2147483647 : Int) < (n : Nat) := by omega
  cases hf : few30 n
  · have HF := Lib.hid hf
    clear hf
    go_enter Tryd.func3, Tryd.ntmps3
    go_wp2_with fail
    refine (dxFew_any A n c _ hn).mono ?_
    rintro r w1 ⟨rfl, rfl⟩
    rw [HF.out]
    go_wp2_with fail
    go_ret
    exact ⟨rfl, Ch.refl _ _⟩
  · have HF := Lib.hid hf
    have hfw : 0 < n ∧ n ≤ 30 := by simpa [few30] using hf
    obtain ⟨h0, h30⟩ := hfw
    clear hf
    obtain ⟨its, hits⟩ : ∃ its, its = elems xs n := ⟨_, rfl⟩
    have HIts := Lib.hid hits
    have HIl : Hid (its.length = n) := Lib.hid (by rw [hits, elems_len])
    clear hits
    go_enter Tryd.func3, Tryd.ntmps3
    go_wp2_with fail
    refine (dxFew_any A n c _ hn).mono ?_
    rintro r w1 ⟨rfl, rfl⟩
    rw [HF.out]
    go_wp2_with fail
    refine (items_any A n c xs _ HX.out (by omega) HA.out H16.out).mono ?_
    rintro r w2 ⟨v, rfl, hO, hC⟩
    rw [← HIts.out] at hO
    obtain ⟨bi1, ci1, rfl, hR, hnc1, _, _⟩ := row_rd hO h0
    have HI1 := Lib.hid hR
    have HCw2 := Lib.hid hC
    clear hO hR hC
    go_wp2_with fail
    refine (queue_any bi1 0 n ci1 its _ HIl.out h0 hnc1 (by omega) HI1.out).mono ?_
    rintro r w3 ⟨A3, m3, c3, rfl, hm3, hR3, hC3⟩
    have hm3n : m3 = n := by rw [← hm3, keys_srt_len, HIl.out]
    subst hm3n
    have HM3 := Lib.hid hm3
    have HR3 := Lib.hid hR3
    have HCw3 := Lib.hid (HCw2.out.trans hC3)
    clear hm3 hR3 hC3
    go_wp2_with fail
    refine (items_any A m3 c xs _ HX.out (by omega) (HA.out.keep0 HCw3.out) H16.out).mono ?_
    rintro r w4 ⟨v, rfl, hO, hC⟩
    rw [← HIts.out] at hO
    obtain ⟨bi2, ci2, rfl, hR, hnc2, _, _⟩ := row_rd hO h0
    have HI2 := Lib.hid hR
    have HR4 := Lib.hid (HR3.out.keep0 hC)
    have HCw4 := Lib.hid (HCw3.out.trans hC)
    clear hO hR hC
    go_wp2_with fail
    refine (puts_any bi2 0 m3 ci2 7 its _ HIl.out h0 hnc2 (by omega) (by omega) (by omega) HI2.out).mono ?_
    rintro r w5 ⟨⟨v5, ss, m, rfl, hP, hm0, hmn⟩, hC⟩
    have HP := Lib.hid hP
    have HR5 := Lib.hid (HR4.out.keep0 hC)
    have HC5 := Lib.hid hC
    have HCw5 := Lib.hid (HCw4.out.trans hC)
    clear hP hC
    have hw45 := HC5.out.size
    go_wp2_with fail
    go_loopw [5, 28] (fun vo vi wr => ∃ i : Nat, i ≤ m3 ∧ vi = .int .i64 i ∧ wr.ownsRow w4.heap.size 32 3 vo (m + 5 * i) (stCells (ss ++ fivesN i)) ∧ Ch (fun k => w4.heap.size ≤ k) w5 wr ∧ Ch S0 w4 wr) (fun _ vi _ => m3 - (intOf vi).toNat)
    case atStart => exact ⟨0, by omega, rfl, by simpa [fivesN] using HP.out.own, Ch.refl _ _, HC5.out⟩
    case round =>
      obtain ⟨i, hi, rfl, hO, hCa, hCb⟩ := hrel
      have HO := Lib.hid hO
      have HCa := Lib.hid hCa
      have HCb := Lib.hid hCb
      have hsz := hCb.size
      clear hO hCa hCb
      by_cases hlt : i < m3
      · have hlti : (i : Int) < (m3 : Nat) := by omega
        go_wp2_with (at_builtin; go_loud (refine app_all elSt rfl (.tmp 30) (.tmp 36) rfl w4.heap.size (m + 5 * i) u5 (stCells (ss ++ fivesN i)) rfl (own_keep0 HO.out ((Ch.refl S0 wr).alloc _)) wr.heap.size 0 5 5 (stCells five) rfl (st_one five) rfl (Rd.new wr (stCells five) 32) (by unfold maxLen; omega) (by omega) (by simp only [World.size_alloc]; omega) ?_); intro v' w6 hown4 hc4 hb4 _; have HOw := Lib.hid hown4; have HC4 := Lib.hid hc4; clear hown4 hc4 hb4)
        go_roundw
        case rel =>
          have hv : ∀ g, u5.ownBlock = some g → w4.heap.size ≤ g := fun g hg => (own_lt HO.out g hg).1
          refine ⟨i + 1, by omega, by go_num, ?_, (HCa.out.alloc _).trans (HC4.out.mono (fun k _ hk => hv k hk)), (HCb.out.alloc _).trans' HC4.out (fun j hj e => absurd (hv j e) (by omega))⟩
          have h1 := HOw.out
          rw [fivesN_succ, ← List.append_assoc]
          have e : stCells (ss ++ fivesN i ++ five) = stCells (ss ++ fivesN i) ++ stCells five := by simp [stCells]
          rw [e, show m + 5 * (i + 1) = m + 5 * i + 5 by omega]
          exact h1
        case measure => simp [intOf]; omega
      · have hin : ¬ (i : Int) < (m3 : Nat) := by omega
        have hie : i = m3 := by omega
        subst hie
        obtain ⟨N, hN⟩ : ∃ N, N = m + 5 * i := ⟨_, rfl⟩
        have hO' := HO.out
        rw [← hN] at hO'
        obtain ⟨b6, c6, rfl, hR6, hnc6, _, _⟩ := row_rd hO' (by omega)
        have hl6 : (ss ++ fivesN i).length = N := by rw [List.length_append, HP.out.len, fivesN_len, hN]
        have hSt : ∀ s ∈ ss ++ fivesN i, St1 wr noB s := fun s hs => by
          rcases List.mem_append.1 hs with hs | hs
          · exact (HP.out.old.keep HCa.out (fun k hk => hk)).none s hs
          · exact fivesN_st wr noB i s hs
        have hI6 := HIl.out
        obtain ⟨hf, hk⟩ : Fine true (ss ++ fivesN i) [] ∧ ∀ ds b, Runs (ss ++ fivesN i) ds [] b → ∃ d1 d2, ds = d1 ++ d2 ∧ d1.length = m ∧ FivesSaid (srt (keys its)) d2 := by
          refine ⟨fine_puts true _ ss [] HP.out.put (by rw [HP.out.its]; simp; omega) (Or.inl rfl) (fun c hc => (fives true i (List.replicate i five) c (by simp) (by have := hc.length_eq; rw [HP.out.its] at this; simp at this; omega) (by omega) (fun l hl => by rw [List.eq_of_mem_replicate hl]; exact five_is)).1), fun ds b h => ?_⟩
          obtain ⟨d1, d2, c, rfl, r1, r2⟩ := Runs.split h
          have hp := runs_puts (fun t ht => (HP.out.put t ht).1) r1
          rw [HP.out.its] at hp
          refine ⟨d1, d2, rfl, by rw [r1.len, HP.out.len], ?_⟩
          have := (fives true i (List.replicate i five) c (by simp) (by have := hp.length_eq; simp at this; omega) (by omega) (fun l hl => by rw [List.eq_of_mem_replicate hl]; exact five_is)).2 d2 b r2
          rwa [srt_eq (keys_perm (show c.Perm its by simpa using hp))] at this
        have hrun := run_any 3 N c6 true (some ⟨b6, 0, none⟩) (ss ++ fivesN i) wr (by omega) hl6 (by omega) hR6 hSt hf
        have HRun := Lib.hid hrun
        have HKk := Lib.hid hk
        have HL6 := Lib.hid hl6
        have HNq := Lib.hid hN
        have HCr := Lib.hid (HCw4.out.trans HCb.out)
        have HR6 := Lib.hid (HR4.out.keep0 HCb.out)
        have hNb : N ≤ 200 := by omega
        have hmN : m < N := by omega
        have hmi : (N : Int) - 5 * (i : Int) = (m : Nat) := by omega
        have hnn : ((N : Int) != (N : Nat)) = false := by simp
        clear hO' hR6 hl6 hSt hI6 hf hk hrun hN
        go_wp2_with fail
        refine HRun.out.mono ?_
        rintro r w7 ⟨⟨v7, ds, c7, rfl, hO7, hS7, hr7⟩, hC7⟩
        obtain ⟨b7, cp7, rfl, hR7, hnc7, _, _⟩ := row_rd hO7 (by omega)
        obtain ⟨d1, d2, hds, hd1, hfs⟩ := HKk.out ds c7 hr7
        have HR7 := Lib.hid hR7
        have HS7 := Lib.hid hS7
        have HDs := Lib.hid hds
        have HD1 := Lib.hid hd1
        have HFs := Lib.hid hfs
        have HA7 := Lib.hid (HR6.out.keep0 hC7)
        have HC7 := Lib.hid (HCr.out.trans hC7)
        clear hO7 hR7 hS7 hr7 hds hd1 hfs hC7
        go_wp2_with fail
        go_loopw [60] (fun vi wr => ∃ j : Nat, j ≤ i ∧ vi = .int .i64 j ∧ Ch S0 w7 wr) (fun vi _ => i - (intOf vi).toNat)
        case atStart => exact ⟨0, by omega, rfl, Ch.refl _ _⟩
        case round =>
          obtain ⟨j, hj, rfl, hCj⟩ := hrel
          have HCj := Lib.hid hCj
          clear hCj
          by_cases hlt : j < i
          · have hlti : (j : Int) < (i : Nat) := by omega
            have hj0 : (0 : Int) ≤ (j : Nat) := by omega
            obtain ⟨d3, d5, d7, d4, d2', k, t, t', g3, g5, g7, g4, g2, hk, i3, i2, f5, f7, f4⟩ := fives_at HFs.out j (by rw [keys_srt_len, HIl.out]; exact hlt)
            rw [keys_srt_len, HIl.out] at f4
            have at' : ∀ (u : Nat) (d : Sd), d2[5 * j + u]? = some d → ds[m + 5 * j + u]? = some d := fun u d h => by
              rw [HDs.out, List.getElem?_append_right (by rw [HD1.out]; omega), HD1.out, show m + 5 * j + u - m = 5 * j + u by omega]
              exact h
            obtain ⟨P, hP⟩ : ∃ P, P = m + 5 * j := ⟨_, rfl⟩
            rw [← hP] at at'
            have hPi : (m : Int) + 5 * (j : Int) = (P : Nat) := by omega
            have hPN : P + 5 ≤ N := by have := HNq.out; omega
            have HPq := Lib.hid hP
            clear hP
            have HAt := Lib.hid at'
            have H3 := Lib.hid (⟨g3, i3⟩ : _ ∧ _)
            have H5 := Lib.hid (⟨g5, f5⟩ : _ ∧ _)
            have H7 := Lib.hid (⟨g7, f7⟩ : _ ∧ _)
            have H4 := Lib.hid (⟨g4, f4⟩ : _ ∧ _)
            have H2 := Lib.hid (⟨g2, i2⟩ : _ ∧ _)
            have Hk := Lib.hid hk
            have hcP : ¬ cp7 = P := by omega
            have hPc : (P : Int) + 5 ≤ (cp7 : Nat) := by omega
            have HPN := Lib.hid hPN
            clear at' g3 i3 g5 f5 g7 f7 g4 f4 g2 i2 hk hPN hmi hnn
            go_upto_region 19 with fail
            rw [show P + 5 - P = 5 by omega]
            obtain ⟨O, hO⟩ : ∃ O, O = P * 4 := ⟨_, rfl⟩
            rw [← hO]
            have hR := HR7.out.keep0 HCj.out
            obtain ⟨a3, _, _⟩ := sd_cell hR (HAt.out 0 _ H3.out.1) (O := O) (by omega)
            obtain ⟨_, _, a5⟩ := sd_cell hR (HAt.out 1 _ H5.out.1) (O := O + 4) (by omega)
            obtain ⟨_, _, a7⟩ := sd_cell hR (HAt.out 2 _ H7.out.1) (O := O + 8) (by omega)
            obtain ⟨_, a4, _⟩ := sd_cell hR (HAt.out 3 _ H4.out.1) (O := O + 12) (by omega)
            obtain ⟨a2, _, _⟩ := sd_cell hR (HAt.out 4 _ H2.out.1) (O := O + 16) (by omega)
            obtain ⟨l3, r3, _⟩ := HS7.out d3 (List.mem_of_getElem? (HAt.out 0 _ H3.out.1))
            obtain ⟨l2, r2, _⟩ := HS7.out d2' (List.mem_of_getElem? (HAt.out 4 _ H2.out.1))
            rw [H3.out.2] at l3 r3
            rw [H2.out.2] at l2 r2
            obtain ⟨b3, o3, e3, k3, _⟩ := rd_pv (r3.keep0 HCj.out) (j := 0) rfl
            obtain ⟨b2, o2, e2, k2, _⟩ := rd_pv (r2.keep0 HCj.out) (j := 0) rfl
            obtain ⟨ba, oa, ea, ka⟩ := (HA7.out.keep0 HCj.out).at (iv_at Hk.out)
            subst ea
            rw [e3, ← l3] at a3
            rw [e2, ← l2] at a2
            rw [H5.out.2] at a5
            rw [H7.out.2] at a7
            rw [H4.out.2] at a4
            simp only [List.length_singleton] at a3 a2
            simp only [Nat.zero_mul, Nat.add_zero] at k3 k2
            have hij : ((i : Nat) : Int) - (j : Nat) = ((i - j : Nat) : Int) := by omega
            have hOq := Lib.hid hO
            clear hO hR l3 r3 l2 r2 e3 e2 hcP hPc hPi
            have hkk : (k != k) = false := by simp
            have hnb : (((i - j : Nat) : Int) != ((i - j : Nat) : Int)) = false := by simp
            go_quiet (fail)
            go_wp2_with fail
            go_roundw
            case rel => exact ⟨j + 1, by omega, by go_num, HCj.out.trans ⟨rfl, rfl, rfl, Nat.le_refl _, fun _ _ _ => rfl⟩⟩
            case measure => simp [intOf]; omega
          · have hin : ¬ (j : Int) < (i : Nat) := by omega
            go_wp2_with fail
            go_ret
            exact ⟨rfl, HC7.out.trans HCj.out⟩
end Go.Proofs.YtpkeiankocimaaaDoor
