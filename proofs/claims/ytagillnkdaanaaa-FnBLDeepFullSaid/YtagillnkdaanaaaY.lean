/- WALKS: ClearAll, Equal, New of bitsets. -/
import Derived.Test.YtagillnkdaanaaaX
namespace Go.Proofs.Ytagillnkdaanaaa
open Go.RowKit
set_option linter.unusedVariables false
set_option linter.unusedSimpArgs false

theorem wordCountB (b sb L : Nat) (g : Nat → Bool) (w : World) (h : BS w b sb L g) (hL : L ≤ 64000) : Calls Try.prog 40 #[.pointer (some ⟨b, 0, none⟩)] w fun e w' => e = .returned (.int .i64 (nw L : Nat)) ∧ w = w' := by
  obtain ⟨_, c0, _⟩ := h.look
  exact wordCount_any b L (nw L) w c0 (by omega) rfl

/-- f below 64 m, g from there on. -/
def mix (m : Nat) (f g : Nat → Bool) : Nat → Bool := fun k => if k < 64 * m then f k else g k

theorem mix_zero (f g : Nat → Bool) : mix 0 f g = g := by funext k; simp [mix]

theorem wd_mix_at (m : Nat) (f g : Nat → Bool) : Bit.wd (mix (m + 1) f g) m = Bit.wd f m := Bit.wd_congr fun k hk => by simp [mix]; omega

theorem wd_mix_other (m j : Nat) (f g : Nat → Bool) (h : j ≠ m) : Bit.wd (mix (m + 1) f g) j = Bit.wd (mix m f g) j := Bit.wd_congr fun k hk => by
  unfold mix
  by_cases h1 : 64 * j + k < 64 * m
  · rw [if_pos (by omega), if_pos h1]
  · rw [if_neg (by omega), if_neg h1]

/-- Word m of a bitset is stored. -/
theorem BS.storeMix {w : World} {b sb L m : Nat} {f g : Nat → Bool} (h : BS w b sb L (mix m f g)) {x : Int} (hm : m < nw L) (hx : x = ((Bit.wd f m : Nat) : Int)) (hoff : ∀ k, L ≤ k → f k = false) (hoffg : ∀ k, L ≤ k → g k = false) :
    BS (w.setCell ⟨sb, m, none⟩ (.int .u64 x)) b sb L (mix (m + 1) f g) :=
  h.store m hm (by rw [wd_mix_at]; exact hx) (fun j hj _ => wd_mix_other m j f g hj) (fun k hk => by unfold mix; split; exact hoff k hk; exact hoffg k hk)

theorem neqnil74 (w : World) (a : Option Addr) (n c n' c' : Nat) : (binOp .neq 23 (.slice a n c) (.slice none n' c')).run Try.prog w = .ok (.bool (!a.isNone)) w := run_neq_slice_nil_any w _ _ a n c n' c' Try.underlying23

theorem BS.to {w : World} {b sb L : Nat} {f g : Nat → Bool} (h : BS w b sb L f) (e : f = g) : BS w b sb L g := e ▸ h

set_option maxRecDepth 100000 in
set_option maxHeartbeats 1000000 in
theorem clearAll_any (b sb L : Nat) (g : Nat → Bool) (w : World) (h : BS w b sb L g) (hL : L ≤ 64000) :
    Calls Try.prog 34 #[.pointer (some ⟨b, 0, none⟩)] w fun e w' => e = .returned (.pointer (some ⟨b, 0, none⟩)) ∧ BS w' b sb L (fun _ => false) ∧ Ch (S2 b sb) w w' := by
  have hne := h.ne
  have hne' := Ne.symm hne
  have hoff := h.off
  obtain ⟨cap, c0, c1, h4, h5, f0, f1, fs, h6⟩ := h.look
  have H := Lib.hid h
  have HO := Lib.hid hoff
  clear h fs h6 hoff
  go_enter Try.func34, Try.ntmps34
  go_wp2_with fail
  go_loopw [18] (fun v wr => ∃ m : Nat, m ≤ nw L ∧ v = .int .i64 m ∧ BS wr b sb L (mix m (fun _ => false) g) ∧ Ch (S2 b sb) w wr) (fun v _ => nw L - (intOf v).toNat)
  case atStart => exact ⟨0, Nat.zero_le _, rfl, by rw [mix_zero]; exact H.out, Ch.refl _ _⟩
  case round =>
    obtain ⟨m, hm, rfl, hJ, hC⟩ := hrel
    clear c0 c1 f0 f1
    by_cases hlt : m < nw L
    · obtain ⟨cap2, c0, c1, _, _, f0, f1, fs, h6⟩ := hJ.look
      have d0 := h6 m hlt
      have e0 := fs m
      have i0 : (m : Int) < (nw L : Nat) := by omega
      have hst := fun (x : Int) (hx : x = ((Bit.wd (fun _ => false) m : Nat) : Int)) => hJ.storeMix hlt hx (fun _ _ => rfl) HO.out
      have HS := Lib.hid hst
      have HC := Lib.hid hC
      clear hst hJ hC fs h6
      go_wp2_with fail
      go_roundw
      case rel => exact ⟨m + 1, hlt, by go_num, HS.out _ (by rw [Bit.wd_zero fun _ _ => rfl]; rfl), HC.out.setCell _ (fun _ => Or.inr rfl) _⟩
      case measure => simp [intOf] <;> omega
    · obtain rfl : m = nw L := by omega
      have HF := Lib.hid (hJ.to (show mix (nw L) (fun _ => false) g = fun _ => false from by
        funext k; unfold mix; split
        · rfl
        · exact HO.out k (by unfold nw at *; omega)))
      have HC := Lib.hid hC
      clear hJ hC
      go_wp2_with fail
      go_ret
      exact ⟨rfl, HF.out, HC.out⟩

set_option maxRecDepth 100000 in
set_option maxHeartbeats 1000000 in
theorem equal_len (b1 s1 b2 s2 L : Nat) (g1 g2 : Nat → Bool) (w : World) (h1 : BS w b1 s1 L g1) (h2 : BS w b2 s2 L g2) (hL : L ≤ 64000) :
    Calls Try.prog 37 #[.pointer (some ⟨b1, 0, none⟩), .pointer (some ⟨b2, 0, none⟩)] w fun e w' => ∃ r, e = .returned (.bool r) ∧ (r = true ↔ ∀ j, j < nw L → Bit.wd g1 j = Bit.wd g2 j) ∧ Ch S0 w w' := by
  obtain ⟨cap, c0, c1, h4, h5, f0, f1, fs, h6⟩ := h1.look
  obtain ⟨kap, k0, k1, k4, k5, _, _, _, k6⟩ := h2.look
  have H6 := Lib.hid h6
  have K6 := Lib.hid k6
  have H1 := Lib.hid h1
  have H2 := Lib.hid h2
  clear h6 k6 h1 h2 fs f0 f1
  go_enter Try.func37, Try.ntmps37
  by_cases hz : L = 0
  · subst hz
    go_wp2_with fail
    go_quiet (fail)
    go_wp2_with fail
    go_ret
    exact ⟨true, rfl, by simp [nw], drewN_ch _ _ _⟩
  · have hzd : ((L : Int) == 0) = false := beq_eq_false_iff_ne.2 (by omega)
    go_wp2_with fail
    go_quiet (fail)
    go_wp2_with fail
    refine (wordCountB b1 s1 L g1 _ (H1.out.keep (drewN_ch S0 _ _) (fun h => h) (fun h => h)) (by omega)).mono ?_
    rintro r w1 ⟨rfl, rfl⟩
    have hn : 0 < nw L := by unfold nw; omega
    have hnd : decide ((nw L : Int) ≤ 0) = false := by simp; omega
    have d1 := H6.out (nw L - 1) (by omega)
    have d2 := K6.out (nw L - 1) (by omega)
    have i0 : (0 : Int) ≤ (nw L : Int) - 1 := by omega
    have i1 : ((nw L : Int) - 1).toNat = nw L - 1 := by omega
    have i2 : (nw L : Int) - 1 < (nw L : Nat) := by omega
    go_wp2_with fail
    go_loopw [6] (fun v wr => ∃ m : Nat, m ≤ nw L ∧ v = .int .i64 m ∧ Hid (∀ j, j < m → Bit.wd g1 j = Bit.wd g2 j) ∧ Ch S0 w wr) (fun v _ => nw L - (intOf v).toNat)
    case atStart => exact ⟨0, Nat.zero_le _, rfl, Lib.hid fun j hj => absurd hj (Nat.not_lt_zero _), drewN_ch _ _ _⟩
    case round =>
      obtain ⟨m, hm, rfl, HS, hC⟩ := hrel
      have hB1 := H1.out.keep hC (fun h => h) (fun h => h)
      have hB2 := H2.out.keep hC (fun h => h) (fun h => h)
      clear c0 c1 k0 k1 d1 d2 h4 h5 k4 k5
      obtain ⟨cap3, c0, c1, h4, h5, _, _, _, h6⟩ := hB1.look
      obtain ⟨cap4, k0, k1, k4, k5, _, _, _, k6⟩ := hB2.look
      by_cases hlt : m < nw L
      · have d1 := h6 m hlt
        have d2 := k6 m hlt
        have HC := Lib.hid hC
        obtain ⟨x, hx⟩ : ∃ x, Bit.wd g1 m = x := ⟨_, rfl⟩
        obtain ⟨y, hy⟩ : ∃ y, Bit.wd g2 m = y := ⟨_, rfl⟩
        rw [hx] at d1
        rw [hy] at d2
        have HX := Lib.hid hx
        have HY := Lib.hid hy
        clear hB1 hB2 h6 k6 hC hx hy
        by_cases he : x = y
        · subst he
          go_wp2_with fail
          go_quiet (fail)
          go_wp2_with fail
          go_roundw
          case rel => exact ⟨m + 1, hlt, by go_num, Lib.hid fun j hj => by
            by_cases e : j = m
            · subst e; exact HX.out.trans HY.out.symm
            · exact HS.out j (by omega), HC.out.trans (drewN_ch _ _ _)⟩
          case measure => simp [intOf] <;> omega
        · have hed : ((y : Int) == (x : Int)) = false := beq_eq_false_iff_ne.2 (by omega)
          have HE := Lib.hid he
          clear he
          go_wp2_with fail
          go_quiet (fail)
          go_wp2_with fail
          go_ret
          exact ⟨false, rfl, ⟨fun h => (by cases h), fun h => absurd (HX.out.symm.trans ((h m hlt).trans HY.out)) HE.out⟩, HC.out.trans (drewN_ch _ _ _)⟩
      · obtain rfl : m = nw L := by omega
        have HC := Lib.hid hC
        clear hB1 hB2 h6 k6 hC
        go_wp2_with fail
        go_ret
        exact ⟨true, rfl, ⟨fun _ => HS.out, fun _ => rfl⟩, HC.out⟩

theorem cells_u64 (n : Nat) : madeCells (Value.int .u64 0).cells n = Array.replicate n (.int .u64 0) := by
  apply Array.ext
  · simp [madeCells]
  · intro i h1 h2
    simp [madeCells, Value.cells, Nat.mod_one]

/-- make([]uint64, n, c) -/
theorem make74 (n c : Nat) (hn : n ≤ c) (hc : c ≤ 1000000) (w : World) :
    (Instr.makeSlice 23 (.int .i64 (n : Int)) (.int .i64 (c : Int))).run Try.prog w = .ok (.slice (some ⟨w.heap.size, 0, none⟩) n c) (w.alloc (.cells (Array.replicate c (.int .u64 0)) 39)) := by
  obtain ⟨i0, hi, hz0, hz1, hz2⟩ := info_parts Try.info39
  have := run_make (P := Try.prog) w 23 39 i0 (.int .u64 0) Try.underlying23 hi hz0 .i64 .i64 n c (by omega) (by omega) (by rw [hz2]; omega) (by omega)
  rw [this, hz1, Nat.mul_one, cells_u64]
  simp

theorem catch_idle (p : Addr) (w : World) :
    CallsD Try.prog 45 #[.pointer (some p)] .returning w fun e u' w' => e = .returned (.tuple #[]) ∧ u' = .returning ∧ w = w' := by
  refine callsD_of_wpS Try.func45 rfl fun c₀ cs hu => ?_
  apply wpS_seq
  apply wpS_region
  simp [wpOpsS, go_sem, recoverD, hu, Try.ntmps45, Exit.thenS]
  apply wpS_seq
  apply wpS_region
  simp [wpOpsS, go_sem, Exit.thenS]
  refine wpS_cond (t := false) (by simp [Act.eval, Array.replicate]) ?_
  simp only [Bool.false_eq_true, if_false]
  refine wpS_of_wp (wp_skip ?_)
  cases c₀
  simp_all [bodyPostS, results, Try.results45]

set_option maxHeartbeats 400000 in
theorem new_any (L : Nat) (h : L ≤ 1000000) (w : World) : Calls Try.prog 36 #[.int .u64 L] w fun e w' => ∃ b sb, e = .returned (.pointer (some ⟨b, 0, none⟩)) ∧ BS w' b sb L (fun _ => false) ∧ w.heap.size ≤ b ∧ w.heap.size ≤ sb ∧ Ch S0 w w' := by
  have hmf : ∀ (fn : Fn) (first cap : Array Value) (w : World), (Instr.makeFunc fn first cap).run Try.prog w = .ok (.func fn first cap) w := fun _ _ _ _ => rfl
  have hmk := make74 (nw L) (nw L) (Nat.le_refl _) (by unfold nw; omega)
  go_enter_defers Try.func36, Try.ntmps36
  go_wp2_with (go_at_call 46; refine (wordsNeeded_any L _ rfl h _).mono ?_; rintro e w' ⟨rfl, rfl⟩)
  refine leaves_cons (f := 45) (args := #[.pointer (some ⟨w.heap.size, 0, none⟩)]) (by simp) (by simp [go_sem]) ?_
  refine (catch_idle ⟨w.heap.size, 0, none⟩ _).mono ?_
  rintro e u' w'' ⟨rfl, rfl, rfl⟩
  simp only [Leaves, settle, results, Try.results36]
  refine ⟨_, by simp [go_sem], w.heap.size + 1 + 1, w.heap.size + 1, rfl, ?_, by omega, by omega, (((Ch.refl _ _).alloc _).alloc _).alloc _⟩
  refine ⟨by omega, fun _ _ => rfl, nw L, Array.replicate (nw L) (.int .u64 0), ?_, ?_, by simp, by omega, by unfold nw; omega, ?_⟩
  · have := Blk.new (((w.alloc (Obj.cells #[Value.pointer (some { block := w.heap.size + 1 + 1, off := 0 })] 53)).alloc (Obj.cells (Array.replicate (nw L) (Value.int IntKind.u64 0)) 39))) #[.int .u64 L, .slice (some ⟨w.heap.size + 1, 0, none⟩) (nw L) (nw L)] 74
    simpa using this
  · have := Blk.new (w.alloc (Obj.cells #[Value.pointer (some { block := w.heap.size + 1 + 1, off := 0 })] 53)) (Array.replicate (nw L) (Value.int IntKind.u64 0)) 39
    simpa using this.alloc _
  · intro i hi
    rw [Bit.wd_zero (fun _ _ => rfl)]
    simp [hi]

end Go.Proofs.Ytagillnkdaanaaa
