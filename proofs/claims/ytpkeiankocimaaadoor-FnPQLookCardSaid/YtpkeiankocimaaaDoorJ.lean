/- WALKS: PQRun. -/
import Derived.Test.YtpkeiankocimaaaDoorH1
import Derived.Test.YtpkeiankocimaaaDoorH2
import Derived.Test.YtpkeiankocimaaaDoorH3
namespace Go.Proofs.YtpkeiankocimaaaDoor
open Go.RowKit
set_option linter.unusedVariables false
set_option linter.unusedSimpArgs false

theorem step_any (base q n cap g mb : Nat) (dup : Bool) (a : List El) (s : St) (w : World) (h : QS w base q n cap g mb dup a) (hb : base ≤ w.heap.size) (ho : Ok dup a s) (hs : St1 w noB s) :
    Calls Tryd.prog 15 #[.pointer (some ⟨q, 0, none⟩), stepV s] w fun r w' => StepX w base q g mb dup a s r w' := by
  obtain ⟨op, m, A, len, cp, its⟩ := s
  rcases ho with ⟨e, h0, hl, hd⟩ | ⟨e, h1, h2, h3, h4⟩ | ⟨e, h3, h4⟩ | ⟨e | e | e, h4⟩ <;> (have e : op = _ := e; subst e)
  · exact step_put base q n cap g mb dup a m A len cp its w h hb hl hd (by have h9 := hs.1; simp only at h9 h0; omega) hs
  · have h1 : 1 ≤ m := h1
    have h2 : m ≤ 1000 := h2
    obtain ⟨k, rfl⟩ : ∃ k : Nat, m = k := ⟨m.toNat, by omega⟩
    exact step_get base q n cap g mb dup a k A len cp its w h hb h3 h4 (by omega) (by omega)
  · exact step_peek base q n cap g mb dup a m A len cp its w h hb h3
  · exact step_len base q n cap g mb dup a m A len cp its w h hb
  · exact step_empty base q n cap g mb dup a m A len cp its w h hb
  · exact step_disposed base q n cap g mb dup a m A len cp its w h hb

/-- What some steps have said, in memory. -/
def SdR (w : World) (av : Nat → Prop) (ds : List Sd) : Prop := ∀ d ∈ ds, d.items.length = d.len ∧ Rd w d.A (pv d.items) ∧ ∀ b o, d.A = some ⟨b, o, none⟩ → b < w.heap.size ∧ ¬ av b
theorem SdR.keep {w w' : World} {S av av' : Nat → Prop} {ds : List Sd} (h : SdR w av ds) (hc : Ch S w w') (hs : ∀ k, k < w.heap.size → S k → av k) (hv : ∀ k, k < w.heap.size → av' k → av k) : SdR w' av' ds := fun d hd => by
  obtain ⟨h1, h2, h3⟩ := h d hd
  exact ⟨h1, h2.keep hc (fun b o e hS => (h3 b o e).2 (hs b (h3 b o e).1 hS)), fun b o e => ⟨Nat.lt_of_lt_of_le (h3 b o e).1 hc.size, fun ha => (h3 b o e).2 (hv b (h3 b o e).1 ha)⟩⟩
/-- Where PQRun stands behind i steps. -/
structure RunI (w wr : World) (q mb : Nat) (dup : Bool) (ss : List St) (vo : Value) (i : Nat) (ds : List Sd) (c : List El) (n cap g : Nat) : Prop where
  qs : QS wr w.heap.size q n cap g mb dup c
  runs : Runs (ss.take i) ds [] c
  fine : Fine dup (ss.drop i) c
  own : wr.ownsRow w.heap.size 36 4 vo i (sdCells ds)
  sd : SdR wr (fun k => SQ q mb g k ∨ vo.ownBlock = some k) ds
  ov : ∀ k, vo.ownBlock = some k → ¬ SQ q mb g k
  gw : w.heap.size ≤ g
  ch : Ch S0 w wr
def RunX (w wr : World) (q mb : Nat) (dup : Bool) (ss : List St) (vo : Value) (i : Nat) : Prop := ∃ ds c n cap g, RunI w wr q mb dup ss vo i ds c n cap g

theorem fine_at {dup : Bool} {ss : List St} {i : Nat} {s : St} {c : List El} (h : Fine dup (ss.drop i) c) (hs : ss[i]? = some s) : Ok dup c s ∧ ∀ d e, Does c s d e → Fine dup (ss.drop (i + 1)) e := by
  obtain ⟨hi, e⟩ := List.getElem?_eq_some_iff.1 hs
  rw [List.drop_eq_getElem_cons hi, e] at h
  exact h
theorem ch_av {w w' : World} {S : Nat → Prop} (h : Ch S w w') (B : Nat) (hS : ∀ k, k < B → ¬ S k) (u : World) (hu : Ch S0 u w) (hB : u.heap.size ≤ B) : Ch S0 u w' := hu.trans' h (fun i hi hs => absurd hs (hS i (by omega)))

def RunOut (w : World) (ss : List St) (N : Nat) (r : Ending) (w' : World) : Prop := ∃ v ds c, r = .returned v ∧ w'.ownsRow w.heap.size 36 4 v N (sdCells ds) ∧ SdR w' noB ds ∧ Runs ss ds [] c
set_option maxRecDepth 100000 in
set_option maxHeartbeats 8000000 in
theorem run_any (hint N cA : Nat) (dup : Bool) (A : Option Addr) (ss : List St) (w : World) (hh : hint ≤ 1000) (hN : ss.length = N) (hN2 : N ≤ 100000) (hA : Rd w A (stCells ss)) (hs : ∀ s ∈ ss, St1 w noB s) (hf : Fine dup ss []) :
    Calls Tryd.prog 10 #[.int .i64 hint, .bool dup, .slice A N cA] w fun r w' => RunOut w ss N r w' ∧ Ch S0 w w' := by
  have HN := Lib.hid hN
  have HA := Lib.hid hA
  have HS := Lib.hid hs
  have HF := Lib.hid hf
  clear hN hA hs hf
  go_enter Tryd.func10, Tryd.ntmps10
  go_wp2_with fail
  refine (new_any hint dup _ hh).mono ?_
  rintro r w1 ⟨⟨q, n, cap, g, mb, rfl, hQ, hq, hg, hmb⟩, hC⟩
  have hI : RunX w w1 q mb dup ss (.slice none 0 0) 0 := ⟨[], [], n, cap, g, ⟨hQ, rfl, HF.out, World.ownsRow_nil _ _ _ _, (fun d hd => by cases hd), (fun k hk => by cases hk), hg, hC⟩⟩
  have HI := Lib.hid hI
  clear hI hQ hg hC
  go_wp2_with fail
  go_loopw [8, 16] (fun vo vi wr => ∃ i : Nat, i ≤ N ∧ vi = .int .i64 i ∧ RunX w wr q mb dup ss vo i) (fun _ vi _ => N - (intOf vi).toNat)
  case atStart => exact ⟨0, by omega, rfl, HI.out⟩
  case round =>
    obtain ⟨i, hi, rfl, ds, c, n', cap', g', hR⟩ := hrel
    have HR := Lib.hid hR
    clear hR
    by_cases hlt : i < N
    · have hlti : (i : Int) < (N : Nat) := by omega
      have hi0 : (0 : Int) ≤ (i : Nat) := by omega
      obtain ⟨s, hs⟩ : ∃ s, ss[i]? = some s := ⟨ss[i]'(by have := HN.out; omega), by simp [HN.out, hlt]⟩
      obtain ⟨b, o, e, c0, c1, c2⟩ := rd_st (HA.out.keep0 HR.out.ch) hs
      subst e
      have hsm : s ∈ ss := List.mem_of_getElem? hs
      have hfi := fine_at HR.out.fine hs
      have hW : Ch S0 wr (wr.alloc (.cells #[.int .i64 s.op, .int .i64 s.n, .slice s.A s.len s.cap] 32)) := (Ch.refl S0 wr).alloc _
      have hst := step_any w.heap.size q n' cap' g' mb dup c s _ (HR.out.qs.keep hW (fun h => h) (fun h => h) (fun h => h)) (Nat.le_trans HR.out.ch.size hW.size) hfi.1 ((HS.out s hsm).keep (HR.out.ch.trans hW) (fun _ h => h))
      have HSt := Lib.hid hst
      have HW := Lib.hid hW
      have HFi := Lib.hid hfi.2
      have HSs := Lib.hid hs
      unfold stepV at HSt
      clear hs hsm hfi hW hst
      go_wp2_with fail
      refine HSt.out.mono ?_
      rintro r w4 ⟨d, g4, cap4, n4, c4, hX⟩
      obtain rfl := hX.res
      have HX := Lib.hid hX
      have hch : Ch (SQ q mb g') wr w4 := (HW.out.mono (fun _ _ h => h.elim)).trans hX.ch
      have hO4 : w4.ownsRow w.heap.size 36 4 u8 i (sdCells ds) := own_keepS HR.out.own hch (fun k hk e => HR.out.ov k hk e)
      have HO4 := Lib.hid hO4
      have HCh := Lib.hid hch
      have hs4 := hch.size
      have hw4 := HR.out.ch.size
      clear hX hch hO4
      unfold saidV
      go_wp2_with (at_builtin; go_loud (refine app_own elSd rfl (.tmp 20) (.tmp 24) rfl w.heap.size i u8 (sdCells ds) rfl HO4.out (sdC d) rfl (by simp [sdC, Value.oneCell']) _ rfl rfl (by unfold maxLen; omega) (by omega) (by omega) ?_); intro v' w5 hown5 hc5 hb5; have HO5 := Lib.hid hown5; have HC5 := Lib.hid hc5; have HB5 := Lib.hid hb5; clear hown5 hc5 hb5)
      go_roundw
      case rel =>
        have hX := HX.out
        have hO := HO5.out
        have hob := HB5.out
        have ho4 := own_lt HO4.out
        have ho0 := own_lt HR.out.own
        have hSQ : ∀ k, SQ q mb g' k → w.heap.size ≤ k := fun k e => by
          rcases e with e | e | e
          · omega
          · omega
          · rw [e]; exact HR.out.gw
        have hg5 : w.heap.size ≤ g4 := by
          rcases hX.gg with e | e
          · rw [e]; exact HR.out.gw
          · exact Nat.le_trans (Nat.le_trans hw4 (HW.out.size)) e
        have hqs := hX.qs
        have hq4 := hqs.qm.blk.lt
        have hgl4 : g4 < w4.heap.size := (own_lt hqs.qm.row g4 rfl).2
        have hml4 : mb < w4.heap.size := by
          obtain ⟨f, nn, hm, _⟩ := hqs.map
          exact hm.lt
        have hovg : ∀ k, u8.ownBlock = some k → ¬ SQ q mb g4 k := fun k hk e => by
          have h1 := HR.out.ov k hk
          have h2 := (ho0 k hk).2
          rcases e with e | e | e
          · exact h1 (Or.inl e)
          · exact h1 (Or.inr (Or.inl e))
          · rcases hX.gg with e2 | e2
            · exact h1 (Or.inr (Or.inr (e.trans e2)))
            · have := HW.out.size; omega
        have hcl : ∀ k, SQ q mb g4 k → k < w4.heap.size := fun k e => by rcases e with e | e | e <;> omega
        refine ⟨i + 1, by omega, by go_num, ds ++ [d], c4, n4, cap4, g4, ⟨hqs.keep HC5.out (fun e => hovg _ e (Or.inl rfl)) (fun e => hovg _ e (Or.inr (Or.inl rfl))) (fun e => hovg _ e (Or.inr (Or.inr rfl))), ?_, HFi.out d c4 hX.does, ?_, ?_, ?_, hg5, ?_⟩⟩
        · rw [List.take_add_one, HSs.out]
          exact HR.out.runs.snoc hX.does
        · rw [sd_snoc]
          exact hO
        · intro e he
          rcases List.mem_append.1 he with he | he
          · obtain ⟨k1, k2, k3⟩ := HR.out.sd e he
            refine ⟨k1, (k2.keep HCh.out (fun b o h hS => (k3 b o h).2 (Or.inl hS))).keep HC5.out (fun b o h hS => (k3 b o h).2 (Or.inr hS)), fun b o h => ?_⟩
            have h3 := k3 b o h
            refine ⟨by have := HC5.out.size; omega, fun hav => ?_⟩
            rcases hav with hav | hav
            · rcases hav with e1 | e1 | e1
              · exact h3.2 (Or.inl (Or.inl e1))
              · exact h3.2 (Or.inl (Or.inr (Or.inl e1)))
              · rcases hX.gg with e2 | e2
                · exact h3.2 (Or.inl (Or.inr (Or.inr (e1.trans e2))))
                · have := HW.out.size; omega
            · rcases hob with e1 | e1
              · rw [e1] at hav; exact h3.2 (Or.inr hav)
              · rw [e1] at hav; cases hav; omega
          · obtain rfl : e = d := by simpa using he
            have hn := hX.new
            refine ⟨hX.len, hX.rd.keep HC5.out (fun b o h hS => ?_), fun b o h => ?_⟩
            · have h1 := (hn b o h).1
              have h2 := (ho0 b hS).2
              have := HW.out.size
              omega
            · have h1 := hn b o h
              refine ⟨by have := HC5.out.size; omega, fun hav => ?_⟩
              rcases hav with hav | hav
              · exact h1.2.2 hav
              · rcases hob with e1 | e1
                · rw [e1] at hav
                  have h2 := (ho0 b hav).2
                  have := HW.out.size
                  omega
                · rw [e1] at hav; cases hav; omega
        · intro k hk e
          rcases hob with e1 | e1
          · rw [e1] at hk; exact hovg k hk e
          · rw [e1] at hk; cases hk; have := hcl _ e; omega
        · refine (HR.out.ch.trans' HCh.out (fun j hj e => absurd (hSQ j e) (by omega))).trans' HC5.out (fun j hj e => absurd (ho0 j e).1 (by omega))
      case measure => simp [intOf]; omega
    · have hin : ¬ (i : Int) < (N : Nat) := by omega
      have hie : i = N := by omega
      go_wp2_with fail
      go_ret
      have h1 := HR.out.runs
      rw [hie, ← HN.out, List.take_length] at h1
      refine ⟨⟨_, ds, c, rfl, by rw [← hie]; exact HR.out.own, HR.out.sd.keep (Ch.refl S0 _) (fun _ _ h => h.elim) (fun _ _ h => h.elim), h1⟩, HR.out.ch⟩
end Go.Proofs.YtpkeiankocimaaaDoor
