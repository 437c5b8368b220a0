/- WALKS: Equal, None, CopyFull. -/
import Derived.Test.YtgnhmgnpmbmjcaaWu
namespace Go.Proofs.Ytgnhmgnpmbmjcaa
open Go.RowKit
set_option linter.unusedVariables false
set_option linter.unusedSimpArgs false
set_option maxRecDepth 100000 in
set_option maxHeartbeats 1000000 in
theorem equal_len (b1 s1 b2 s2 L : Nat) (g1 g2 : Nat → Bool) (w : World) (h1 : BS w b1 s1 L g1) (h2 : BS w b2 s2 L g2) (hL : L ≤ 40000) :
    Calls Try.prog 63 #[.pointer (some ⟨b1, 0, none⟩), .pointer (some ⟨b2, 0, none⟩)] w fun e w' => ∃ r, e = .returned (.bool r) ∧ (r = true ↔ ∀ j, j < nw L → Bit.wd g1 j = Bit.wd g2 j) ∧ Ch S0 w w' := by
  obtain ⟨cap, c0, c1, h4, h5, f0, f1, fs, h6⟩ := h1.look
  obtain ⟨kap, k0, k1, k4, k5, _, _, _, k6⟩ := h2.look
  have H6 := Lib.hid h6
  have K6 := Lib.hid k6
  have H1 := Lib.hid h1
  have H2 := Lib.hid h2
  clear h6 k6 h1 h2 fs f0 f1
  go_enter Try.func63, Try.ntmps63
  by_cases hz : L = 0
  · subst hz
    go_wp2_with fail
    go_quiet (fail)
    go_wp2_with fail
    go_ret
    exact ⟨true, rfl, by simp [nw], drewN_ch _ _ _⟩
  · have hzd : ((L : Int) == 0) = false := beq_eq_false_iff_ne.2 (by omega)
    go_wp2_with fail
    go_quiet (fail)
    go_wp2_with fail
    refine (wordCount_any b1 s1 L g1 _ (H1.out.keep (drewN_ch S0 _ _) (fun h => h) (fun h => h)) (by omega)).mono ?_
    rintro r w1 ⟨rfl, rfl⟩
    have hn : 0 < nw L := by unfold nw; omega
    have hnd : decide ((nw L : Int) ≤ 0) = false := by simp; omega
    have d1 := H6.out (nw L - 1) (by omega)
    have d2 := K6.out (nw L - 1) (by omega)
    have i0 : (0 : Int) ≤ (nw L : Int) - 1 := by omega
    have i1 : ((nw L : Int) - 1).toNat = nw L - 1 := by omega
    have i2 : (nw L : Int) - 1 < (nw L : Nat) := by omega
    go_wp2_with fail
    go_loopw [6] (fun v wr => ∃ m : Nat, m ≤ nw L ∧ v = .int .i64 m ∧ Hid (∀ j, j < m → Bit.wd g1 j = Bit.wd g2 j) ∧ Ch S0 w wr) (fun v _ => nw L - (intOf v).toNat)
    case atStart => exact ⟨0, Nat.zero_le _, rfl, Lib.hid fun j hj => absurd hj (Nat.not_lt_zero _), drewN_ch _ _ _⟩
    case round =>
      obtain ⟨m, hm, rfl, HS, hC⟩ := hrel
      have hB1 := H1.out.keep hC (fun h => h) (fun h => h)
      have hB2 := H2.out.keep hC (fun h => h) (fun h => h)
      clear c0 c1 k0 k1 d1 d2 h4 h5 k4 k5
      obtain ⟨cap3, c0, c1, h4, h5, _, _, _, h6⟩ := hB1.look
      obtain ⟨cap4, k0, k1, k4, k5, _, _, _, k6⟩ := hB2.look
      by_cases hlt : m < nw L
      · have d1 := h6 m hlt
        have d2 := k6 m hlt
        have HC := Lib.hid hC
        obtain ⟨x, hx⟩ : ∃ x, Bit.wd g1 m = x := ⟨_, rfl⟩
        obtain ⟨y, hy⟩ : ∃ y, Bit.wd g2 m = y := ⟨_, rfl⟩
        rw [hx] at d1
        rw [hy] at d2
        have HX := Lib.hid hx
        have HY := Lib.hid hy
        clear hB1 hB2 h6 k6 hC hx hy
        by_cases he : x = y
        · subst he
          go_wp2_with fail
          go_quiet (fail)
          go_wp2_with fail
          go_roundw
          case rel => exact ⟨m + 1, hlt, by go_num, Lib.hid fun j hj => by
            by_cases e : j = m
            · subst e; exact HX.out.trans HY.out.symm
            · exact HS.out j (by omega), HC.out.trans (drewN_ch _ _ _)⟩
          case measure => simp [intOf] <;> omega
        · have hed : ((y : Int) == (x : Int)) = false := beq_eq_false_iff_ne.2 (by omega)
          have HE := Lib.hid he
          clear he
          go_wp2_with fail
          go_quiet (fail)
          go_wp2_with fail
          go_ret
          exact ⟨false, rfl, ⟨fun h => (by cases h), fun h => absurd (HX.out.symm.trans ((h m hlt).trans HY.out)) HE.out⟩, HC.out.trans (drewN_ch _ _ _)⟩
      · obtain rfl : m = nw L := by omega
        have HC := Lib.hid hC
        clear hB1 hB2 h6 k6 hC
        go_wp2_with fail
        go_ret
        exact ⟨true, rfl, ⟨fun _ => HS.out, fun _ => rfl⟩, HC.out⟩
set_option maxRecDepth 100000 in
theorem equal_no (b1 s1 b2 s2 L1 L2 : Nat) (g1 g2 : Nat → Bool) (w : World) (h1 : BS w b1 s1 L1 g1) (h2 : BS w b2 s2 L2 g2) (hne : L1 ≠ L2) :
    Calls Try.prog 63 #[.pointer (some ⟨b1, 0, none⟩), .pointer (some ⟨b2, 0, none⟩)] w fun e w' => e = .returned (.bool false) ∧ Ch S0 w w' := by
  obtain ⟨cap, c0, c1, h4, h5, f0, f1, fs, h6⟩ := h1.look
  obtain ⟨kap, k0, k1, k4, k5, _, _, _, k6⟩ := h2.look
  have hed : ((L1 : Int) == (L2 : Int)) = false := beq_eq_false_iff_ne.2 (by omega)
  clear h6 k6 h1 h2 fs f0 f1
  go_enter Try.func63, Try.ntmps63
  go_wp2_with fail
  go_quiet (fail)
  go_wp2_with fail
  go_ret
  exact ⟨rfl, drewN_ch _ _ _⟩
set_option maxRecDepth 100000 in
set_option maxHeartbeats 1000000 in
theorem none_any (b sb L : Nat) (g : Nat → Bool) (w : World) (h : BS w b sb L g) (hL : L ≤ 40000) (hg : ∀ k, g k = false) :
    Calls Try.prog 65 #[.pointer (some ⟨b, 0, none⟩)] w fun e w' => e = .returned (.bool true) ∧ Ch S0 w w' := by
  obtain ⟨cap, c0, c1, h4, h5, f0, f1, fs, h6⟩ := h.look
  have h7 : ∀ j, j < nw L → w.cell? ⟨sb, j, none⟩ = some (.int .u64 0) := fun j hj => by rw [h6 j hj, Bit.wd_zero fun k _ => hg _]; rfl
  have H7 := Lib.hid h7
  clear h6 h fs h7 hg
  go_enter Try.func65, Try.ntmps65
  go_wp2_with fail
  refine (panicIfNull_any _ _).mono ?_
  rintro r w1 ⟨rfl, rfl⟩
  go_wp2_with fail
  go_loopw [21] (fun v wr => ∃ m : Nat, m ≤ nw L ∧ v = .int .i64 m ∧ w = wr) (fun v _ => nw L - (intOf v).toNat)
  case atStart => exact ⟨0, Nat.zero_le _, rfl, rfl⟩
  case round =>
    obtain ⟨m, hm, rfl, rfl⟩ := hrel
    by_cases hlt : m < nw L
    · have d1 := H7.out m hlt
      go_wp2_with fail
      go_roundw
      case rel => exact ⟨m + 1, hlt, by go_num, trivial⟩
      case measure => simp [intOf] <;> omega
    · go_wp2_with fail
      go_ret
      exact ⟨rfl, Ch.refl _ _⟩
set_option maxRecDepth 100000 in
set_option maxHeartbeats 1000000 in
theorem copyFull_any (b1 s1 b2 s2 L1 L2 : Nat) (g1 g2 : Nat → Bool) (w : World) (h1 : BS w b1 s1 L1 g1) (h2 : BS w b2 s2 L2 g2) (hL : L1 ≤ 40000) (hb : b1 ≠ b2) (hs : s1 ≠ s2) (hx : b1 ≠ s2) (hy : s1 ≠ b2) :
    Calls Try.prog 64 #[.pointer (some ⟨b1, 0, none⟩), .pointer (some ⟨b2, 0, none⟩)] w fun e w' => e = .returned (.tuple #[]) ∧ Out w w' b2 s2 L1 g1 := by
  have hl1 := h1.lt
  have hl2 := h2.lt
  have hoff := h1.off
  obtain ⟨hn1, _, cap, C1, p1, p2, p3, p4, p5, p6⟩ := h1
  obtain ⟨hn2, _, kap, C2, q1, q2, q3, q4, q5, q6⟩ := h2
  have hb' := Ne.symm hb
  have hs' := Ne.symm hs
  have hx' := Ne.symm hx
  have hy' := Ne.symm hy
  have c0 := p1.cell 0
  have c1 := p1.cell 1
  have k0 := q1.cell 0
  have k1 := q1.cell 1
  have e0 := q1.free 0
  have e1 := q1.free 1
  simp only [List.getElem?_toArray, List.getElem?_cons_zero, List.getElem?_cons_succ] at c0 c1 k0 k1
  have hw : ∀ nq, Blk ((w.setCell ⟨b2, 0, none⟩ (.int .u64 (L1 : Nat))).drewN nq) b1 #[.int .u64 (L1 : Nat), .slice (some ⟨s1, 0, none⟩) (nw L1) cap] ∧ Blk ((w.setCell ⟨b2, 0, none⟩ (.int .u64 (L1 : Nat))).drewN nq) s1 C1 ∧ Blk ((w.setCell ⟨b2, 0, none⟩ (.int .u64 (L1 : Nat))).drewN nq) b2 #[.int .u64 (L1 : Nat), .slice (some ⟨s2, 0, none⟩) (nw L2) kap] ∧ Blk ((w.setCell ⟨b2, 0, none⟩ (.int .u64 (L1 : Nat))).drewN nq) s2 C2 ∧ Ch (S2 b2 s2) w ((w.setCell ⟨b2, 0, none⟩ (.int .u64 (L1 : Nat))).drewN nq) := fun nq =>
    ⟨(p1.setOther (by simpa using hb') _).keep (drewN_ch S0 _ _) (fun h => h), (p2.setOther (by simpa using hy') _).keep (drewN_ch S0 _ _) (fun h => h), by have := (q1.set 0 (.int .u64 (L1 : Nat))).keep (drewN_ch S0 _ nq) (fun h => h); simpa using this, (q2.setOther (by simpa using hn2) _).keep (drewN_ch S0 _ _) (fun h => h), ((Ch.refl _ _).setCell _ (fun _ => Or.inl rfl) _).trans (drewN_ch _ _ _)⟩
  have HW := Lib.hid hw
  have P6 := Lib.hid p6
  have HOF := Lib.hid hoff
  have Q1 := Lib.hid q1
  have Q2 := Lib.hid q2
  clear hw p6 q6 hoff p1 p2 q1 q2
  go_enter Try.func64, Try.ntmps64
  by_cases hz : nw L1 = 0
  · have hzd : ((nw L1 : Int) == 0) = true := beq_iff_eq.2 (by omega)
    have hL0 : L1 = 0 := by unfold nw at hz; omega
    have HL0 := Lib.hid hL0
    clear hL0
    go_wp2_with fail
    go_end0
    refine ⟨rfl, s2, ⟨hn2, HOF.out, kap, C2, ?_, (Q2.out.setOther (by simpa using hn2) _).setOther (by simpa using hn2) _, q3, by omega, q5, fun j hj => by omega⟩, Or.inl rfl, ((Ch.refl _ _).setCell _ (fun _ => Or.inl rfl) _).setCell _ (fun _ => Or.inl rfl) _⟩
    have := (Q1.out.set 0 (.int .u64 (L1 : Nat))).set 1 (.slice (some ⟨s2, 0, none⟩) 0 kap)
    rw [hz]
    simpa using this
  · have hzd : ((nw L1 : Int) == 0) = false := beq_eq_false_iff_ne.2 (by omega)
    by_cases hc : kap < nw L1
    · have hcd : decide ((kap : Int) < (nw L1 : Nat)) = true := by simp; omega
      have hcd2 : decide (kap < nw L1) = true := by simp; omega
      have hmk : ∀ w, (Instr.makeSlice 74 (.int .i64 ((nw L1 : Nat) : Int)) (.int .i64 ((nw L1 : Nat) : Int))).run Try.prog w = .ok (.slice (some ⟨w.heap.size, 0, none⟩) (nw L1) (nw L1)) (w.alloc (.cells (Array.replicate (nw L1) (.int .u64 0)) 38)) := fun w => make74 (nw L1) (nw L1) (Nat.le_refl _) (by omega) w
      go_wp2_with fail
      go_quiet (fail)
      have hq := HW.out nq
      generalize (w.setCell ⟨b2, 0, none⟩ (.int .u64 (L1 : Nat))).drewN nq = W0 at *
      obtain ⟨r1, r2, r3, r4, r5⟩ := hq
      clear c0 c1 k0 k1 e0 e1
      have c0 := r1.cell 0
      have c1 := r1.cell 1
      have k0 := r3.cell 0
      have k1 := r3.cell 1
      have e0 := r3.free 0
      have e1 := r3.free 1
      have l1 := r1.lt
      have l2 := r2.lt
      have l3 := r3.lt
      simp only [List.getElem?_toArray, List.getElem?_cons_zero, List.getElem?_cons_succ] at c0 c1 k0 k1
      have u3 := l3
      go_wp2_with fail
      have t2 : Blk ((W0.setCell ⟨b2, 1, none⟩ (.slice (some ⟨W0.heap.size, 0, none⟩) (nw L1) (nw L1))).alloc (.cells (Array.replicate (nw L1) (.int .u64 0)) 38)) s1 C1 := (r2.setOther (by simpa using hy') _).alloc _
      have t1 : Blk ((W0.setCell ⟨b2, 1, none⟩ (.slice (some ⟨W0.heap.size, 0, none⟩) (nw L1) (nw L1))).alloc (.cells (Array.replicate (nw L1) (.int .u64 0)) 38)) b1 #[.int .u64 (L1 : Nat), .slice (some ⟨s1, 0, none⟩) (nw L1) cap] := (r1.setOther (by simpa using hb') _).alloc _
      have t3 : Blk ((W0.setCell ⟨b2, 1, none⟩ (.slice (some ⟨W0.heap.size, 0, none⟩) (nw L1) (nw L1))).alloc (.cells (Array.replicate (nw L1) (.int .u64 0)) 38)) b2 #[.int .u64 (L1 : Nat), .slice (some ⟨W0.heap.size, 0, none⟩) (nw L1) (nw L1)] := by
        have := (r3.set 1 (.slice (some ⟨W0.heap.size, 0, none⟩) (nw L1) (nw L1))).alloc (.cells (Array.replicate (nw L1) (.int .u64 0)) 38)
        simpa using this
      have t4 : Blk ((W0.setCell ⟨b2, 1, none⟩ (.slice (some ⟨W0.heap.size, 0, none⟩) (nw L1) (nw L1))).alloc (.cells (Array.replicate (nw L1) (.int .u64 0)) 38)) W0.heap.size (Array.replicate (nw L1) (.int .u64 0)) := by
        have := Blk.new (W0.setCell ⟨b2, 1, none⟩ (.slice (some ⟨W0.heap.size, 0, none⟩) (nw L1) (nw L1))) (Array.replicate (nw L1) (.int .u64 0)) 38
        simpa using this
      have t5 : Ch (S2 b2 s2) w ((W0.setCell ⟨b2, 1, none⟩ (.slice (some ⟨W0.heap.size, 0, none⟩) (nw L1) (nw L1))).alloc (.cells (Array.replicate (nw L1) (.int .u64 0)) 38)) := (r5.setCell _ (fun _ => Or.inl rfl) _).alloc _
      have hsz := r5.size
      generalize ((W0.setCell ⟨b2, 1, none⟩ (.slice (some ⟨W0.heap.size, 0, none⟩) (nw L1) (nw L1))).alloc (.cells (Array.replicate (nw L1) (.int .u64 0)) 38)) = W1 at *
      obtain ⟨W2, hcp, ⟨C', a1, a2, a3, a4⟩, hC2⟩ := copy74 W1.drew W0.heap.size s1 _ C1 t4.drew t2.drew (nw L1) (nw L1) (nw L1) cap (nw L1) (Nat.min_self _).symm (fun j hj => ⟨_, P6.out j hj⟩) (by simp)
      have hfin : BS W2 b2 W0.heap.size L1 g1 := ⟨by omega, HOF.out, nw L1, C', t3.drew.keep hC2 (fun e => by simp only [S1] at e; omega), a1, by simpa using a2, Nat.le_refl _, by omega, fun j hj => by rw [a3 j hj]; exact P6.out j hj⟩
      have hch : Ch (S2 b2 s2) w W2 := t5.drew.trans' hC2 (fun i hi e => by simp only [S1] at e; omega)
      have HF := Lib.hid hfin
      have HCH := Lib.hid hch
      clear c0 c1 k0 k1 e0 e1
      have c1 := t1.cell 1
      have k1 := t3.cell 1
      simp only [List.getElem?_toArray, List.getElem?_cons_zero, List.getElem?_cons_succ] at c1 k1
      clear t1 t2 t3 t4 t5 a1 a2 a3 a4 hC2 hfin hch r1 r2 r3 r4 r5
      go_still_tail 8, (by kernel_rfl)
      go_wp2
      go_end0
      exact ⟨rfl, W0.heap.size, HF.out, Or.inr hsz, HCH.out⟩
    · have hcd : decide ((kap : Int) < (nw L1 : Nat)) = false := by simp; omega
      have hcd2 : decide (kap < nw L1) = false := by simp; omega
      go_wp2_with fail
      go_quiet (fail)
      have hq := HW.out nq
      generalize (w.setCell ⟨b2, 0, none⟩ (.int .u64 (L1 : Nat))).drewN nq = W0 at *
      obtain ⟨r1, r2, r3, r4, r5⟩ := hq
      clear c0 c1 k0 k1 e0 e1
      have c0 := r1.cell 0
      have c1 := r1.cell 1
      have k0 := r3.cell 0
      have k1 := r3.cell 1
      have e0 := r3.free 0
      have e1 := r3.free 1
      simp only [List.getElem?_toArray, List.getElem?_cons_zero, List.getElem?_cons_succ] at c0 c1 k0 k1
      have u0 : (0 : Int) ≤ (nw L1 : Int) := by omega
      have u1 : (nw L1 : Int) ≤ (kap : Int) := by omega
      have u2 : nw L1 ≤ kap := by omega
      go_wp2_with fail
      go_still_tail 13, (by kernel_rfl)
      repeat still_step
      try (refine wpStill_nil ?_)
      go_wp2_with fail
      have t2 : Blk (W0.setCell ⟨b2, 1, none⟩ (.slice (some ⟨s2, 0, none⟩) (nw L1) kap)).drew s1 C1 := (r2.setOther (by simpa using hy') _).drew
      have t1 : Blk (W0.setCell ⟨b2, 1, none⟩ (.slice (some ⟨s2, 0, none⟩) (nw L1) kap)).drew b1 #[.int .u64 (L1 : Nat), .slice (some ⟨s1, 0, none⟩) (nw L1) cap] := (r1.setOther (by simpa using hb') _).drew
      have t3 : Blk (W0.setCell ⟨b2, 1, none⟩ (.slice (some ⟨s2, 0, none⟩) (nw L1) kap)).drew b2 #[.int .u64 (L1 : Nat), .slice (some ⟨s2, 0, none⟩) (nw L1) kap] := by
        have := (r3.set 1 (.slice (some ⟨s2, 0, none⟩) (nw L1) kap)).drew
        simpa using this
      have t4 : Blk (W0.setCell ⟨b2, 1, none⟩ (.slice (some ⟨s2, 0, none⟩) (nw L1) kap)).drew s2 C2 := (r4.setOther (by simpa using hn2) _).drew
      have t5 : Ch (S2 b2 s2) w (W0.setCell ⟨b2, 1, none⟩ (.slice (some ⟨s2, 0, none⟩) (nw L1) kap)).drew := (r5.setCell _ (fun _ => Or.inl rfl) _).drew
      generalize (W0.setCell ⟨b2, 1, none⟩ (.slice (some ⟨s2, 0, none⟩) (nw L1) kap)).drew = W1 at *
      obtain ⟨W2, hcp, ⟨C', a1, a2, a3, a4⟩, hC2⟩ := copy74 W1.drew s2 s1 C2 C1 t4.drew t2.drew (nw L1) kap (nw L1) cap (nw L1) (Nat.min_self _).symm (fun j hj => ⟨_, P6.out j hj⟩) (by omega)
      have hfin : BS W2 b2 s2 L1 g1 := ⟨hn2, HOF.out, kap, C', t3.drew.keep hC2 (fun e => by simp only [S1] at e; omega), a1, by omega, u2, q5, fun j hj => by rw [a3 j hj]; exact P6.out j hj⟩
      have hch : Ch (S2 b2 s2) w W2 := t5.drew.trans' hC2 (fun i hi e => by simp only [S1] at e; exact Or.inr e)
      have HF := Lib.hid hfin
      have HCH := Lib.hid hch
      clear c0 c1 k0 k1 e0 e1
      have c1 := t1.cell 1
      have k1 := t3.cell 1
      simp only [List.getElem?_toArray, List.getElem?_cons_zero, List.getElem?_cons_succ] at c1 k1
      clear t1 t2 t3 t4 t5 a1 a2 a3 a4 hC2 hfin hch r1 r2 r3 r4 r5
      go_still_tail 8, (by kernel_rfl)
      go_wp2
      go_end0
      exact ⟨rfl, s2, HF.out, Or.inl rfl, HCH.out⟩
end Go.Proofs.Ytgnhmgnpmbmjcaa
