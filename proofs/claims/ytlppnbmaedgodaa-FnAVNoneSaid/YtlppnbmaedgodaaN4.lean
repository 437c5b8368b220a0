/- WALKS: a run of steps. -/
import Derived.Test.YtlppnbmaedgodaaN3
namespace Go.Proofs.Ytlppnbmaedgodaa
open Go.RowKit
set_option linter.unusedVariables false
set_option linter.unusedSimpArgs false

theorem own_lit {w : World} {base E : Nat} {x : Value} (hb : base ≤ w.heap.size) : (w.alloc (.cells #[x] E)).ownsRow base E 1 (.slice (some ⟨w.heap.size, 0, none⟩) 1 1) 1 [x] := by
  refine ⟨rfl, Or.inr ⟨w.heap.size, 1, #[x], rfl, hb, ?_, Nat.le_refl _, by unfold maxLen; omega, rfl, rfl⟩⟩
  show (w.heap.push _)[_]? = _
  simp
/-- The loop over the steps. -/
def AllL (w : World) (ss : List St) (N : Nat) (v4 v5 v14 : Value) (wr : World) : Prop :=
  ∃ (i : Nat) (Ts : List (Nat × T)) (ds : List Sd), i ≤ N ∧ v14 = .int .i64 i ∧ Sess w wr v4 v5 Ts ds ∧ Ts.map (fun p => p.2.toL) = runL [[]] (ss.take i) ∧ ds.map (fun d => (d.m, d.an)) = runO [[]] (ss.take i) ∧ Ts.length ≤ i + 1 ∧ ds.length = i
theorem free_new {w : World} {base E sz n : Nat} {v : Value} {xs : List Value} (h : w.ownsRow base E sz v n xs) {x : Nat} (hx : w.heap.size ≤ x) : v.ownBlock ≠ some x := fun e => by have := (own_lt h x e).2; omega
/-- What a run hands back. -/
def RunR (w : World) (ss : List St) (N : Nat) (v : Value) (w' : World) : Prop :=
  ∃ ds : List Sd, ds.length = N ∧ w'.ownsRow w.heap.size 31 3 v N (sdC ds) ∧ ds.map (fun d => (d.m, d.an)) = runO [[]] ss ∧ (∀ d ∈ ds, Rd w' d.A1 (sc d.an) ∧ Rd w' d.A2 (hc d.an)) ∧ (∀ d ∈ ds, ∀ b o, d.A1 = some ⟨b, o, none⟩ ∨ d.A2 = some ⟨b, o, none⟩ → b < w'.heap.size ∧ w.heap.size ≤ b)
theorem stepL1 (Ls : List (List (Int × Int))) (fr : Nat) (es : List (Int × Int)) (A : Option Addr) (c : Nat) : stepL Ls ⟨1, fr, es, A, c⟩ = Ls ++ [finL (Ls.getD fr []) es] := rfl
theorem stepL2 (Ls : List (List (Int × Int))) (fr : Nat) (es : List (Int × Int)) (A : Option Addr) (c : Nat) : stepL Ls ⟨2, fr, es, A, c⟩ = Ls ++ [Ls.getD fr []] := rfl
theorem stepL3 (Ls : List (List (Int × Int))) (fr : Nat) (es : List (Int × Int)) (A : Option Addr) (c : Nat) : stepL Ls ⟨3, fr, es, A, c⟩ = Ls := rfl
theorem stepO1 (Ls : List (List (Int × Int))) (fr : Nat) (es : List (Int × Int)) (A : Option Addr) (c : Nat) : stepO Ls ⟨1, fr, es, A, c⟩ = ((finL (Ls.getD fr []) es).length, ansI (Ls.getD fr []) es) := rfl
theorem stepO2 (Ls : List (List (Int × Int))) (fr : Nat) (es : List (Int × Int)) (A : Option Addr) (c : Nat) : stepO Ls ⟨2, fr, es, A, c⟩ = ((Ls.getD fr []).length, ansG (Ls.getD fr []) es) := rfl
theorem stepO3 (Ls : List (List (Int × Int))) (fr : Nat) (es : List (Int × Int)) (A : Option Addr) (c : Nat) : stepO Ls ⟨3, fr, es, A, c⟩ = ((Ls.getD fr []).length, ansG (Ls.getD fr []) es) := rfl
theorem new_free {w0 w : World} {vl vo : Value} {Ts : List (Nat × T)} {ds : List Sd} {cp cp' : Nat} {t t' : T} (hf : ∀ x, x = cp ∨ x ∈ t.bl → vl.ownBlock ≠ some x ∧ vo.ownBlock ≠ some x) (s : Sess w0 w vl vo Ts ds) (hcp : w.heap.size ≤ cp') (hb : ∀ x ∈ t'.bl, x ∈ t.bl ∨ w.heap.size ≤ x) : ∀ x, x = cp' ∨ x ∈ t'.bl → vl.ownBlock ≠ some x ∧ vo.ownBlock ≠ some x := by
  intro x hx
  have hnew : ∀ y, w.heap.size ≤ y → vl.ownBlock ≠ some y ∧ vo.ownBlock ≠ some y := fun y hy => ⟨free_new s.rl hy, free_new s.ro hy⟩
  rcases hx with rfl | hx
  · exact hnew _ hcp
  · rcases hb x hx with h | h
    · exact hf x (Or.inr h)
    · exact hnew x h
theorem sd_free {w0 w w' : World} {vl vo : Value} {Ts : List (Nat × T)} {ds : List Sd} {A1 A2 : Option Addr} (s : Sess w0 w vl vo Ts ds) (hC : Ch S0 w w') (g1 : ∀ b o, A1 = some ⟨b, o, none⟩ → w.heap.size ≤ b ∧ b < w'.heap.size) (g2 : ∀ b o, A2 = some ⟨b, o, none⟩ → w.heap.size ≤ b ∧ b < w'.heap.size) : ∀ b o, A1 = some ⟨b, o, none⟩ ∨ A2 = some ⟨b, o, none⟩ → b < w'.heap.size ∧ w0.heap.size ≤ b ∧ vl.ownBlock ≠ some b ∧ vo.ownBlock ≠ some b := by
  intro b o h
  have h1 : w.heap.size ≤ b ∧ b < w'.heap.size := by
    rcases h with h | h
    · exact g1 b o h
    · exact g2 b o h
  exact ⟨h1.2, Nat.le_trans s.ch.size h1.1, free_new s.rl h1.1, free_new s.ro h1.1⟩
theorem getD_map {Ts : List (Nat × T)} {i : Nat} {p : Nat × T} (h : Ts[i]? = some p) : (Ts.map (fun p => p.2.toL)).getD i [] = p.2.toL := by simp [List.getD, h]
set_option maxRecDepth 100000 in
set_option maxHeartbeats 40000000 in
theorem avAll_any (A : Option Addr) (N c : Nat) (ss : List St) (w : World) (hl : ss.length = N) (hN : N ≤ 100) (hA : Rd w A (stC ss)) (hs : ∀ s ∈ ss, StIn w s) (hf : FineAll [[]] ss) :
    Calls Try.prog 17 #[.slice A N c] w fun r w' => (∃ v1 v2, r = .returned (.tuple #[v1, v2]) ∧ RunR w ss N v2 w') ∧ Ch S0 w w' := by
  have HL := Lib.hid hl
  have HA := Lib.hid hA
  have HSs := Lib.hid hs
  have HF := Lib.hid hf
  clear hl hA hs hf
  go_enter Try.func17, Try.ntmps17
  go_wp2_with (go_at_call 20; refine (newI_any _).mono ?_; rintro r w1 ⟨cp0, rfl, hcp, hI, hC⟩; have HI0 := Lib.hid hI; have HC0 := Lib.hid hC; have HCp := Lib.hid hcp; clear hI hC hcp)
  have HS0 : Hid (AllL w ss N (.slice (some ⟨w1.heap.size, 0, none⟩) 1 1) (.slice none 0 0) (.int .i64 0) (w1.alloc (.cells #[.pointer (some ⟨cp0, 0, none⟩)] 52))) := Lib.hid (by
    have hlt := HI0.out.blk.lt
    refine ⟨0, [(cp0, .nil)], [], by omega, rfl, ⟨own_lit HC0.out.size, World.ownsRow_nil _ _ _ _, fun g hg h => (by cases h), fun p hp => ?_, fun p hp x hx => ?_, fun d hd => (by cases hd), fun d hd => (by cases hd), HC0.out.alloc _⟩, rfl, rfl, by simp, rfl⟩
    · obtain rfl := List.mem_singleton.1 hp
      exact HI0.out.keep ((Ch.refl S0 w1).alloc _) (fun h => h) (fun _ _ h => h)
    · obtain rfl := List.mem_singleton.1 hp
      have hb := HI0.out.blt hx
      exact ⟨fun e => by have e2 : w1.heap.size = x := Option.some.inj e; omega, fun e => (by cases e)⟩)
  obtain ⟨W1, hW1⟩ : ∃ W, W = w1.alloc (.cells #[.pointer (some ⟨cp0, 0, none⟩)] 52) := ⟨_, rfl⟩
  rw [← hW1] at HS0 ⊢
  clear hW1
  go_loopw [4, 5, 14] (fun v4 v5 v14 wr => AllL w ss N v4 v5 v14 wr) (fun _ _ vi _ => N - (intOf vi).toNat)
  case atStart => exact HS0.out
  case round =>
    obtain ⟨i, Ts, ds, hi, rfl, hS, hT, hD, hTl, hDl⟩ := hrel
    have HS := Lib.hid hS
    have HT := Lib.hid hT
    have HD := Lib.hid hD
    have HTl := Lib.hid hTl
    have HDl := Lib.hid hDl
    clear hS hT hD HS0 hTl hDl
    by_cases hlt : i < N
    · have hlti : (i : Int) < (N : Nat) := by omega
      have hi0 : (0 : Int) ≤ (i : Nat) := by omega
      obtain ⟨s, hx⟩ : ∃ x, ss[i]? = some x := ⟨ss[i]'(by have := HL.out; omega), by simp [HL.out, hlt]⟩
      have hfi := fine_at HF.out hx
      have hsi := HSs.out s (List.mem_of_getElem? hx)
      obtain ⟨q, o, e, c0, c1, c2⟩ := rd_st (HA.out.keep0 HS.out.ch) hx
      subst e
      rw [← HT.out] at hfi
      have HT' : Hid (runL [[]] (ss.take (i + 1)) = stepL (Ts.map (fun p => p.2.toL)) s) := Lib.hid (by rw [take_one hx, runL_snoc, HT.out])
      have HD' : Hid (runO [[]] (ss.take (i + 1)) = ds.map (fun d => (d.m, d.an)) ++ [stepO (Ts.map (fun p => p.2.toL)) s]) := Lib.hid (by rw [take_one hx, runO_snoc, HT.out, HD.out])
      obtain ⟨op, fr, es, As, cs⟩ := s
      obtain ⟨f1, f2, f3, f4, f5, f6⟩ := hfi
      simp only [List.length_map] at f1 f2 f3 f4 f5 f6
      obtain ⟨⟨cp, t⟩, hp⟩ : ∃ p, Ts[fr]? = some p := ⟨_, List.getElem?_eq_getElem f1⟩
      rw [getD_map hp] at f5 f6
      have hIm := HS.out.im (cp, t) (List.mem_of_getElem? hp)
      have hFl := HS.out.fl (cp, t) (List.mem_of_getElem? hp)
      have HGd := Lib.hid (getD_map hp)
      obtain ⟨m, hm⟩ : ∃ m, Ts.length = m := ⟨_, rfl⟩
      obtain ⟨n, hn⟩ : ∃ n, es.length = n := ⟨_, rfl⟩
      have hrl := HS.out.rl
      rw [hm] at hrl f1
      simp only at c0 c1 c2 f3 f4 hsi
      rw [hn] at c2 f3 f4
      have hrow := own_rd hrl
      obtain ⟨A4, k4, rfl, hR4, _, _, _, _⟩ := hrow
      obtain ⟨q4, o4, e4, d4⟩ := hR4.at (ptC_at hp)
      subst e4
      have hfm : (fr : Int) < (m : Nat) := by omega
      have hf0 : (0 : Int) ≤ (fr : Nat) := by omega
      have hm9 : m ≤ 200 := by have := HTl.out; omega
      have hr1 : (fr : Int).tmod (m : Int) = (fr : Nat) := by rw [Int.tmod_eq_emod_of_nonneg hf0]; exact Int.emod_eq_of_lt hf0 hfm
      have hr2 : ((fr : Int) + (m : Int)).tmod (m : Int) = (fr : Nat) := by rw [Int.tmod_eq_emod_of_nonneg (by omega), Int.add_emod_right]; exact Int.emod_eq_of_lt hf0 hfm
      have hnz : ¬ (m : Int) = 0 := by omega
      have hnzb : ((m : Int) == 0) = false := by simpa using hnz
      have HIm := Lib.hid hIm
      have HFl := Lib.hid hFl
      have HRl := Lib.hid hrl
      have HEn := Lib.hid (show Rd w As (ec es) from hsi)
      have HN := Lib.hid hn
      have HM := Lib.hid hm
      have HX := Lib.hid hx
      have HF6 := Lib.hid f6
      have HF5 := Lib.hid f5
      have HV := Lib.hid (show StIn w ⟨op, fr, es, As, cs⟩ from hsi)
      have HR4 := Lib.hid hR4
      have HPt := Lib.hid (ptC_at hp)
      clear hIm hFl hrl hR4 hp hx hn hm hsi f5 f6 d4
      rcases f2 with rfl | rfl | rfl
      · have hop : (((1 : Nat)) : Int) = 1 := rfl
        rw [hop] at c0
        obtain ⟨q9, o9, e9, d9⟩ := (HR4.out.keep0 ((Ch.refl S0 wr).alloc (.cells #[.int .i64 1, .int .i64 fr, .slice As n cs] 27))).at HPt.out
        cases e9
        skip
        go_wp2_with (first | (go_at_call 22; refine (avEntries_any As n cs es _ HN.out (by omega) (HEn.out.keep0 (HS.out.ch.alloc _))).mono ?_; rintro r wa ⟨va, rfl, hO, hC⟩; obtain ⟨Aa, ca, rfl, hRa, _, _, _, _⟩ := own_rd hO; have HRa := Lib.hid hRa; have HCa := Lib.hid (((Ch.refl S0 wr).alloc (.cells #[.int .i64 1, .int .i64 fr, .slice As n cs] 27)).trans hC); have HSa := Lib.hid (HS.out.keep0 (((Ch.refl S0 wr).alloc _).trans hC)); clear hO hC hRa) | (go_at_call 21; refine (Insert_any cp t Aa n ca es _ ((HIm.out).keep HCa.out (fun h => h) (fun _ _ h => h)) HN.out (by omega) (by omega) (by have := HF5.out; omega) HRa.out).mono ?_; rintro r wb ⟨⟨cp', t', vb, rfl, hI, hcp, hl, hO, hbl⟩, hC⟩; obtain ⟨Ab, cb, rfl, hRb, _, _, _, _⟩ := own_rd hO; have HIb := Lib.hid hI; have HLb := Lib.hid hl; have HRb := Lib.hid hRb; have HSb := Lib.hid (HSa.out.keep0 hC); have HFb := Lib.hid (new_free HFl.out HSa.out hcp hbl); have HNb : Hid (∀ b o, Ab = some ⟨b, o, none⟩ → (Value.slice (some ⟨q4, o4, none⟩) m k4).ownBlock ≠ some b) := Lib.hid (fun b o e => by have hh := own_lt hO b (by rw [e]; rfl); have := HSa.out.rl; exact free_new this hh.1); clear hI hcp hl hO hbl hC hRb) | (at_builtin; go_loud (refine app_own elIm rfl (.tmp 44) (.tmp 46) rfl w.heap.size m _ (ptC Ts) rfl (by have := HSb.out.rl; rw [HM.out] at this; exact this) [.pointer (some ⟨cp', 0, none⟩)] rfl (by simp [Value.oneCell']) wb.heap.size rfl rfl (by unfold maxLen; omega) (by omega) HSb.out.ch.size ?_); intro vl' wc hown hc4 hb4; obtain ⟨A9, k9, rfl, _⟩ := own_rd hown; have HSc := Lib.hid (HSb.out.addT HIb.out HFb.out (by rw [HM.out]; exact hown) hc4 hb4); have HRc := Lib.hid (HRb.out.keep hc4 (fun b o e h => HNb.out b o e h)); clear hown hc4 hb4) | (go_at_call 25; refine (avSaid_any cp' t' Ab n cb (ansI t.toL es) _ (HSc.out.im (cp', t') (by simp)) (by rw [ansI_len]; exact HN.out) (by omega) HRc.out).mono ?_; rintro r wd ⟨A1, c1, A2, c2, rfl, h1, h2, g1, g2, hC⟩; have HSd := Lib.hid (HSc.out.keep0 hC); have H1 := Lib.hid h1; have H2 := Lib.hid h2; have HG := Lib.hid (sd_free HSc.out hC g1 g2); rw [HLb.out]; clear h1 h2 g1 g2 hC) | (at_builtin; go_loud (refine app_own elSd rfl (.tmp 69) (.tmp 73) rfl w.heap.size i _ (sdC ds) rfl (by have := HSd.out.ro; rw [HDl.out] at this; exact this) [.int .i64 (((finL t.toL es).length : Nat) : Int), .slice A1 n c1, .slice A2 n c2] rfl (by simp [Value.oneCell']) wd.heap.size rfl rfl (by unfold maxLen; omega) (by omega) HSd.out.ch.size ?_); intro vo' we hown hc4 hb4; obtain ⟨A8, k8, rfl, _⟩ := own_rd hown; have HSe := Lib.hid (HSd.out.addD (d := ⟨(finL t.toL es).length, (ansI t.toL es), A1, c1, A2, c2⟩) H1.out H2.out HG.out (by rw [HDl.out]; have := hown; simp only [Sd.cells]; rw [show (ansI t.toL es).length = n from (by rw [ansI_len]; exact HN.out)]; exact this) hc4 hb4); clear hown hc4 hb4))
        go_roundw
        case rel => exact ⟨i + 1, Ts ++ [(cp', t')], ds ++ [⟨(finL t.toL es).length, (ansI t.toL es), A1, c1, A2, c2⟩], by omega, by go_num, HSe.out, by rw [HT'.out, stepL1, HGd.out, List.map_append, List.map_cons, List.map_nil, HLb.out], by rw [HD'.out, stepO1, HGd.out, List.map_append]; rfl, by have := HTl.out; (try simp only [List.length_append, List.length_cons, List.length_nil]); omega, by have := HDl.out; simp only [List.length_append, List.length_cons, List.length_nil]; omega⟩
        case measure => simp [intOf]; omega
      · have hop : (((2 : Nat)) : Int) = 2 := rfl
        rw [hop] at c0
        obtain ⟨q9, o9, e9, d9⟩ := (HR4.out.keep0 ((Ch.refl S0 wr).alloc (.cells #[.int .i64 2, .int .i64 fr, .slice As n cs] 27))).at HPt.out
        cases e9
        have HF7 := Lib.hid (HF6.out (by first | rfl | trivial))
        go_wp2_with (first | (go_at_call 22; refine (avEntries_any As n cs es _ HN.out (by omega) (HEn.out.keep0 (HS.out.ch.alloc _))).mono ?_; rintro r wa ⟨va, rfl, hO, hC⟩; obtain ⟨Aa, ca, rfl, hRa, _, _, _, _⟩ := own_rd hO; have HRa := Lib.hid hRa; have HCa := Lib.hid (((Ch.refl S0 wr).alloc (.cells #[.int .i64 2, .int .i64 fr, .slice As n cs] 27)).trans hC); have HSa := Lib.hid (HS.out.keep0 (((Ch.refl S0 wr).alloc _).trans hC)); clear hO hC hRa) | (go_at_call 23; refine (Delete_any cp t Aa n ca es _ ((HIm.out).keep HCa.out (fun h => h) (fun _ _ h => h)) HN.out (by omega) (by omega) HF5.out HF7.out HRa.out).mono ?_; rintro r wb ⟨⟨cp', t', vb, rfl, hI, hcp, hl, hO, hbl⟩, hC⟩; obtain ⟨Ab, cb, rfl, hRb, _, _, _, _⟩ := own_rd hO; have HIb := Lib.hid hI; have HLb := Lib.hid hl; have HRb := Lib.hid hRb; have HSb := Lib.hid (HSa.out.keep0 hC); have HFb := Lib.hid (new_free HFl.out HSa.out hcp hbl); have HNb : Hid (∀ b o, Ab = some ⟨b, o, none⟩ → (Value.slice (some ⟨q4, o4, none⟩) m k4).ownBlock ≠ some b) := Lib.hid (fun b o e => by have hh := own_lt hO b (by rw [e]; rfl); have := HSa.out.rl; exact free_new this hh.1); clear hI hcp hl hO hbl hC hRb) | (at_builtin; go_loud (refine app_own elIm rfl (.tmp 58) (.tmp 60) rfl w.heap.size m _ (ptC Ts) rfl (by have := HSb.out.rl; rw [HM.out] at this; exact this) [.pointer (some ⟨cp', 0, none⟩)] rfl (by simp [Value.oneCell']) wb.heap.size rfl rfl (by unfold maxLen; omega) (by omega) HSb.out.ch.size ?_); intro vl' wc hown hc4 hb4; obtain ⟨A9, k9, rfl, _⟩ := own_rd hown; have HSc := Lib.hid (HSb.out.addT HIb.out HFb.out (by rw [HM.out]; exact hown) hc4 hb4); have HRc := Lib.hid (HRb.out.keep hc4 (fun b o e h => HNb.out b o e h)); clear hown hc4 hb4) | (go_at_call 25; refine (avSaid_any cp' t' Ab n cb (ansG t.toL es) _ (HSc.out.im (cp', t') (by simp)) (by rw [show (ansG t.toL es).length = es.length by simp [ansG]]; exact HN.out) (by omega) HRc.out).mono ?_; rintro r wd ⟨A1, c1, A2, c2, rfl, h1, h2, g1, g2, hC⟩; have HSd := Lib.hid (HSc.out.keep0 hC); have H1 := Lib.hid h1; have H2 := Lib.hid h2; have HG := Lib.hid (sd_free HSc.out hC g1 g2); rw [HLb.out]; clear h1 h2 g1 g2 hC) | (at_builtin; go_loud (refine app_own elSd rfl (.tmp 69) (.tmp 73) rfl w.heap.size i _ (sdC ds) rfl (by have := HSd.out.ro; rw [HDl.out] at this; exact this) [.int .i64 ((t.toL.length : Nat) : Int), .slice A1 n c1, .slice A2 n c2] rfl (by simp [Value.oneCell']) wd.heap.size rfl rfl (by unfold maxLen; omega) (by omega) HSd.out.ch.size ?_); intro vo' we hown hc4 hb4; obtain ⟨A8, k8, rfl, _⟩ := own_rd hown; have HSe := Lib.hid (HSd.out.addD (d := ⟨t.toL.length, (ansG t.toL es), A1, c1, A2, c2⟩) H1.out H2.out HG.out (by rw [HDl.out]; have := hown; simp only [Sd.cells]; rw [show (ansG t.toL es).length = n from (by rw [show (ansG t.toL es).length = es.length by simp [ansG]]; exact HN.out)]; exact this) hc4 hb4); clear hown hc4 hb4))
        go_roundw
        case rel => exact ⟨i + 1, Ts ++ [(cp', t')], ds ++ [⟨t.toL.length, (ansG t.toL es), A1, c1, A2, c2⟩], by omega, by go_num, HSe.out, by rw [HT'.out, stepL2, HGd.out, List.map_append, List.map_cons, List.map_nil, HLb.out], by rw [HD'.out, stepO2, HGd.out, List.map_append]; rfl, by have := HTl.out; (try simp only [List.length_append, List.length_cons, List.length_nil]); omega, by have := HDl.out; simp only [List.length_append, List.length_cons, List.length_nil]; omega⟩
        case measure => simp [intOf]; omega
      · have hop : (((3 : Nat)) : Int) = 3 := rfl
        rw [hop] at c0
        obtain ⟨q9, o9, e9, d9⟩ := (HR4.out.keep0 ((Ch.refl S0 wr).alloc (.cells #[.int .i64 3, .int .i64 fr, .slice As n cs] 27))).at HPt.out
        cases e9
        skip
        go_wp2_with (first | (go_at_call 22; refine (avEntries_any As n cs es _ HN.out (by omega) (HEn.out.keep0 (HS.out.ch.alloc _))).mono ?_; rintro r wa ⟨va, rfl, hO, hC⟩; obtain ⟨Aa, ca, rfl, hRa, _, _, _, _⟩ := own_rd hO; have HRa := Lib.hid hRa; have HCa := Lib.hid (((Ch.refl S0 wr).alloc (.cells #[.int .i64 3, .int .i64 fr, .slice As n cs] 27)).trans hC); have HSa := Lib.hid (HS.out.keep0 (((Ch.refl S0 wr).alloc _).trans hC)); clear hO hC hRa) | (go_at_call 24; refine (Get_any cp t Aa n ca es _ ((HIm.out).keep HCa.out (fun h => h) (fun _ _ h => h)) HN.out (by omega) HRa.out).mono ?_; rintro r wb ⟨vb, rfl, hO, hC⟩; obtain ⟨Ab, cb, rfl, hRb, _, _, _, _⟩ := own_rd hO; have HRb := Lib.hid hRb; have HSb := Lib.hid (HSa.out.keep0 hC); have HIb := Lib.hid ((HIm.out.keep HCa.out (fun h => h) (fun _ _ h => h)).keep hC (fun h => h) (fun _ _ h => h)); clear hO hC hRb) | (go_at_call 25; refine (avSaid_any cp t Ab n cb (ansG t.toL es) _ HIb.out (by rw [show (ansG t.toL es).length = es.length by simp [ansG]]; exact HN.out) (by omega) HRb.out).mono ?_; rintro r wd ⟨A1, c1, A2, c2, rfl, h1, h2, g1, g2, hC⟩; have HSd := Lib.hid (HSb.out.keep0 hC); have H1 := Lib.hid h1; have H2 := Lib.hid h2; have HG := Lib.hid (sd_free HSb.out hC g1 g2); rw [show t.toL = t.toL from rfl]; clear h1 h2 g1 g2 hC) | (at_builtin; go_loud (refine app_own elSd rfl (.tmp 69) (.tmp 73) rfl w.heap.size i _ (sdC ds) rfl (by have := HSd.out.ro; rw [HDl.out] at this; exact this) [.int .i64 ((t.toL.length : Nat) : Int), .slice A1 n c1, .slice A2 n c2] rfl (by simp [Value.oneCell']) wd.heap.size rfl rfl (by unfold maxLen; omega) (by omega) HSd.out.ch.size ?_); intro vo' we hown hc4 hb4; obtain ⟨A8, k8, rfl, _⟩ := own_rd hown; have HSe := Lib.hid (HSd.out.addD (d := ⟨t.toL.length, (ansG t.toL es), A1, c1, A2, c2⟩) H1.out H2.out HG.out (by rw [HDl.out]; have := hown; simp only [Sd.cells]; rw [show (ansG t.toL es).length = n from (by rw [show (ansG t.toL es).length = es.length by simp [ansG]]; exact HN.out)]; exact this) hc4 hb4); clear hown hc4 hb4))
        go_roundw
        case rel => exact ⟨i + 1, Ts, ds ++ [⟨t.toL.length, (ansG t.toL es), A1, c1, A2, c2⟩], by omega, by go_num, HSe.out, by rw [HT'.out, stepL3], by rw [HD'.out, stepO3, HGd.out, List.map_append]; rfl, by have := HTl.out; (try simp only [List.length_append, List.length_cons, List.length_nil]); omega, by have := HDl.out; simp only [List.length_append, List.length_cons, List.length_nil]; omega⟩
        case measure => simp [intOf]; omega
    · have hin : ¬ (i : Int) < (N : Nat) := by omega
      have hie : i = N := by omega
      have hTk : ss.take i = ss := by rw [hie, ← HL.out, List.take_length]
      have hR : RunR w ss N u5 wr := ⟨ds, by rw [HDl.out, hie], by have := HS.out.ro; rw [HDl.out, hie] at this; exact this, by rw [HD.out, hTk], HS.out.sd, fun d hd b o h => ⟨(HS.out.fs d hd b o h).1, (HS.out.fs d hd b o h).2.1⟩⟩
      have HR := Lib.hid hR
      clear hTk hR
      go_wp2_with fail
      go_ret2
      exact ⟨⟨_, _, rfl, HR.out⟩, HS.out.ch⟩
end Go.Proofs.Ytlppnbmaedgodaa
