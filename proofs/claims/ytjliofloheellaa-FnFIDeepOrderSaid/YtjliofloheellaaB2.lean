/- WALKS: rebuild. -/
import Derived.Test.YtjliofloheellaaB
namespace Go.Proofs.Ytjliofloheellaa
open Go.RowKit
set_option linter.unusedVariables false
set_option linter.unusedSimpArgs false

/-- The map of the first i places. -/
noncomputable def part (T : Nat → Option Pk) : Nat → Nat → Option Nat
  | 0 => fun _ => none
  | i + 1 => match T i with
    | none => part T i
    | some p => upd (part T i) p.k p.v
theorem part_has {H : Nat → Nat} {N : Nat} {T : Nat → Option Pk} (t : Tab H N T) : ∀ i, i ≤ N → ∀ k v, part T i k = some v ↔ ∃ j p, j < i ∧ T j = some p ∧ p.k = k ∧ p.v = v
  | 0, _, k, v => ⟨fun h => (by cases h), fun ⟨j, _, h, _⟩ => (by omega)⟩
  | i + 1, hi, k, v => by
    have ih := part_has t i (by omega)
    unfold part
    cases hT : T i with
    | none =>
      simp only
      rw [ih k v]
      constructor
      · rintro ⟨j, p, h1, h2⟩; exact ⟨j, p, by omega, h2⟩
      · rintro ⟨j, p, h1, h2⟩
        refine ⟨j, p, ?_, h2⟩
        have : j ≠ i := fun e => by rw [e, hT] at h2; cases h2.1
        omega
    | some q =>
      simp only [upd]
      by_cases e : k = q.k
      · simp only [e, if_true, Option.some.injEq]
        constructor
        · intro h; exact ⟨i, q, by omega, hT, rfl, h⟩
        · rintro ⟨j, p, h1, h2, h3, h4⟩
          have : j = i := t.uniq j i p q (by omega) (by omega) h2 hT h3
          rw [this, hT] at h2; cases h2; exact h4
      · simp only [e, if_false]
        rw [ih k v]
        constructor
        · rintro ⟨j, p, h1, h2⟩; exact ⟨j, p, by omega, h2⟩
        · rintro ⟨j, p, h1, h2, h3, h4⟩
          refine ⟨j, p, ?_, h2, h3, h4⟩
          have : j ≠ i := fun e' => by rw [e', hT] at h2; cases h2; exact e h3.symm
          omega
theorem part_fresh {H : Nat → Nat} {N : Nat} {T : Nat → Option Pk} (t : Tab H N T) {i : Nat} (hi : i < N) {p : Pk} (hp : T i = some p) : part T i p.k = none := by
  cases h : part T i p.k with
  | none => rfl
  | some v =>
    obtain ⟨j, q, h1, h2, h3, _⟩ := (part_has t i (by omega) p.k v).1 h
    have := t.uniq j i q p (by omega) hi h2 hp h3
    omega
theorem part_all {H : Nat → Nat} {N N' : Nat} {T T' : Nat → Option Pk} {m : Nat → Option Nat} (t : Tab H N T) (r : Rep N T m) (h : Rep N' T' (part T N)) : Rep N' T' m := fun k v => by
  rw [r k v, ← h k v, part_has t N (Nat.le_refl _)]
  unfold Has
  exact ⟨fun ⟨i, p, h1, h2⟩ => ⟨i, p, h1, h2⟩, fun ⟨i, p, h1, h2⟩ => ⟨i, p, h1, h2⟩⟩

/-- rebuild behind i places. -/
structure RbInv (w wr : World) (tb tb2 N N2 : Nat) (T : Nat → Option Pk) (i : Nat) : Prop where
  ex : ∃ T2, Arr wr tb2 N2 T2 ∧ Tab Hsh N2 T2 ∧ Rep N2 T2 (part T i) ∧ occ T2 N2 = occ T i ∧ ∀ j q, j < N2 → T2 j = some q → ∃ l, l < N ∧ T l = some q
  ch : Ch S0 w wr

set_option maxRecDepth 100000 in
set_option maxHeartbeats 2000000 in
theorem rebuild_any (base fb tb e c : Nat) (T : Nat → Option Pk) (m : Nat → Option Nat) (w : World) (h : FI base w fb tb e T m c) (he : e ≤ 10) (hbase : base ≤ w.heap.size) :
    Calls Try.prog 13 #[.pointer (some ⟨fb, 0, none⟩)] w fun r w' => r = .returned (.tuple #[]) ∧ (∃ tb' T', FI base w' fb tb' (e + 1) T' m c ∧ tb' = w.heap.size ∧ ∀ j q, j < 2 ^ (e + 1) → T' j = some q → ∃ l, l < 2 ^ e ∧ T l = some q) ∧ Ch (S1 fb) w w' := by
  obtain ⟨N, hN⟩ : ∃ N, N = 2 ^ e := ⟨_, rfl⟩
  obtain ⟨N2, hN2⟩ : ∃ N2, N2 = 2 ^ (e + 1) := ⟨_, rfl⟩
  have hNN : N2 = 2 * N := by rw [hN2, hN, Nat.pow_succ]; omega
  have hN0 : 0 < N := by rw [hN]; exact Nat.two_pow_pos _
  have hN1 : N ≤ 1024 := by rw [hN]; exact Nat.le_trans (Nat.pow_le_pow_right (n := 2) (j := 10) (by omega) (by omega)) (by decide)
  have hblk := h.blk
  have hArr := h.arr
  have hTab := h.tab
  rw [← hN] at hblk hArr hTab
  have x0 := hblk.cell 0
  have x1 := hblk.cell 1
  have z1 := hblk.free 1
  simp only [List.getElem?_toArray, List.getElem?_cons_zero, List.getElem?_cons_succ] at x0 x1
  have hfl := hblk.lt
  have hHR : ∀ w : World, Calls Try.prog 12 #[.int .u64 ((N : Int) + 1)] w fun r w' => r = .returned (.int .u64 (N2 : Nat)) ∧ w = w' := fun w => by
    have q := round_any (N + 1) (by omega) (by omega) w
    rw [show ru (N + 1) = N2 by rw [hN2, hN]; exact ru_next e (by omega)] at q
    exact q
  have HR := Lib.hid hHR
  have hmk := make42 N2 (by omega) N2 rfl
  have hinit : RbInv w (w.alloc (.cells (Array.replicate N2 (.pointer none)) 47)) tb w.heap.size N N2 T 0 :=
    ⟨⟨_, Arr.new w N2, Tab.empty _ _, Rep.empty _, by rw [occ_none]; rfl, fun _ _ _ h => by cases h⟩, (Ch.refl _ _).alloc _⟩
  have HI := Lib.hid hinit
  have H := Lib.hid h
  have HA := Lib.hid hArr
  have HT := Lib.hid hTab
  have HNe := Lib.hid hN
  have HN2e := Lib.hid hN2
  have hN2a : N < N2 := by omega
  have hN2b : N2 ≤ 2048 := by omega
  clear hinit hblk hArr hTab h hN hN2 hHR hNN
  go_enter Try.func13, Try.ntmps13
  go_wp2_with fail
  refine (HR.out _).mono ?_
  rintro r w1 ⟨rfl, rfl⟩
  go_wp2_with fail
  go_loopw [4, 19] (fun _ vi wr => ∃ i : Nat, i ≤ N ∧ vi = .int .i64 i ∧ RbInv w wr tb w.heap.size N N2 T i) (fun _ vi _ => N - (intOf vi).toNat)
  case atStart => exact ⟨0, by omega, rfl, HI.out⟩
  case round =>
    obtain ⟨i, hi, rfl, hJ⟩ := hrel
    have hAr := HA.out.keep hJ.ch (fun h => h) (fun _ _ _ _ h => h)
    have HJ := Lib.hid hJ
    clear hJ
    by_cases hlt : i < N
    · have hlti : (i : Int) < (N : Nat) := by omega
      have c0 := hAr.cell i hlt
      cases hT : T i with
      | none =>
        rw [hT] at c0
        simp only [ptrOf] at c0
        have HJ2 : Hid (RbInv w wr tb w.heap.size N N2 T (i + 1)) := Lib.hid (by
          obtain ⟨⟨T2, a1, a2, a3, a4, a5⟩, a6⟩ := HJ.out
          exact ⟨⟨T2, a1, a2, by unfold part; rw [hT]; exact a3, by simp only [occ, hT]; exact a4, a5⟩, a6⟩)
        clear hAr hT
        go_wp2_with fail
        go_roundw
        case rel => exact ⟨i + 1, by omega, by go_num, HJ2.out⟩
        case measure => simp [intOf]; omega
      | some p =>
        rw [hT] at c0
        simp only [ptrOf] at c0
        have hpk := hAr.pks i p hlt hT
        obtain ⟨⟨T2, a1, a2, a3, a4, a5⟩, a6⟩ := HJ.out
        have hpl : p.b < w.heap.size := (HA.out.pks i p hlt hT).2.lt
        have hroom : ∃ j, j < N2 ∧ T2 j = none := occ_free _ (by have := occ_le T i; omega)
        have hfr := part_fresh HT.out hlt hT
        have HS := Lib.hid (set_any w.heap.size N2 (e + 1) p T2 (part T i) wr HN2e.out (by omega) a1 a2 a3 hroom ⟨by omega, hpk.2⟩ hfr)
        have A6 := Lib.hid a6
        have A5 := Lib.hid a5
        have A4 := Lib.hid a4
        have HTi := Lib.hid hT
        clear hAr hT hpk a1 a2 a3 a4 a5 a6 hroom hfr
        go_wp2_with fail
        refine HS.out.mono ?_
        rintro r w2 ⟨rfl, ⟨T3, b1, b2, b3, b4, b5⟩, hC⟩
        have HJ2 : Hid (RbInv w w2 tb w.heap.size N N2 T (i + 1)) := Lib.hid (by
          refine ⟨⟨T3, b1, b2, by unfold part; rw [HTi.out]; exact b3, by simp only [occ, HTi.out]; rw [b4, A4.out]; rfl, fun j q hj hq => ?_⟩, A6.out.trans' hC (fun k hk hs => by cases hs; omega)⟩
          rcases b5 j q hj hq with h | h
          · exact A5.out j q hj h
          · subst h; exact ⟨i, hlt, HTi.out⟩)
        clear b1 b2 b3 b4 b5 hC
        go_wp2_with fail
        go_roundw
        case rel => exact ⟨i + 1, by omega, by go_num, HJ2.out⟩
        case measure => simp [intOf]; omega
    · obtain rfl : i = N := by omega
      have hlti : ¬ (i : Int) < (i : Nat) := by omega
      have hb := H.out.blk.keep HJ.out.ch (fun h => h)
      have y0 := hb.cell 0
      have y1 := hb.cell 1
      have zz := hb.free 1
      simp only [List.getElem?_toArray, List.getElem?_cons_zero, List.getElem?_cons_succ] at y0 y1
      have hfin : ∃ tb' T', FI base (wr.setCell ⟨fb, 1, none⟩ (.slice (some ⟨w.heap.size, 0, none⟩) N2 N2)) fb tb' (e + 1) T' m c ∧ tb' = w.heap.size ∧ ∀ j q, j < 2 ^ (e + 1) → T' j = some q → ∃ l, l < 2 ^ e ∧ T l = some q := by
        obtain ⟨⟨T2, a1, a2, a3, a4, a5⟩, a6⟩ := HJ.out
        have hne : fb ≠ w.heap.size := by omega
        have hlow := H.out.low
        have hl := H.out.load
        have hpw : 2 ^ (e + 1) = 2 * 2 ^ e := by rw [Nat.pow_succ]; omega
        refine ⟨w.heap.size, T2, ⟨?_, ?_, ?_, ?_, ?_, by rw [hpw]; omega, by omega, ⟨hlow.1, hbase, hne⟩, fun j q hj hq => ?_⟩, rfl, fun j q hj hq => by rw [← HN2e.out] at hj; rw [← HNe.out]; exact a5 j q hj hq⟩
        · have := hb.set 1 (.slice (some ⟨w.heap.size, 0, none⟩) N2 N2)
          rw [← HN2e.out]
          simpa using this
        · rw [← HN2e.out]
          refine a1.keep ((Ch.refl (S1 fb) _).setCell _ (fun _ => show S1 fb fb from rfl) _) (fun hs => hne hs.symm) (fun j q hj hq hs => ?_)
          obtain ⟨l, hl1, hl2⟩ := a5 j q hj hq
          exact H.out.pks l q (by rw [← HNe.out]; exact hl1) hl2 hs
        · rw [← HN2e.out]; exact a2
        · rw [← HN2e.out]; exact part_all HT.out (by have := H.out.rep; rwa [← HNe.out] at this) a3
        · rw [← HN2e.out, a4]; have := H.out.occ; rwa [← HNe.out] at this
        · rw [← HN2e.out] at hj
          obtain ⟨l, hl1, hl2⟩ := a5 j q hj hq
          exact H.out.pks l q (by rw [← HNe.out]; exact hl1) hl2
      have HF := Lib.hid hfin
      have HCh := Lib.hid HJ.out.ch
      clear hfin hb hAr
      go_wp2_with fail
      refine bodyPost_end (results_none rfl _ _ _) rfl ?_
      exact ⟨rfl, HF.out, (HCh.out.mono (fun _ _ h => h.elim)).setCell _ (fun _ => show S1 fb fb from rfl) _⟩
end Go.Proofs.Ytjliofloheellaa
