/- WALKS: extendSet. -/
import Derived.Test.YtdkhanfapgnjoaaDoorWa
import Derived.Lib.SliceRun
import Derived.Lib.Hide
namespace Go.Proofs.YtdkhanfapgnjoaaDoor
open Go.RowKit
set_option linter.unusedVariables false
set_option linter.unusedSimpArgs false

def CAP : Int := 18446744073709551615
theorem cap_any' (w : World) : Calls Tryd.prog 33 #[] w fun e w' => e = .returned (.int .u64 CAP) ∧ w = w' := cap_any w

theorem nil74 (w : World) (a : Option Addr) (n c n' c' : Nat) : (binOp .eql 44 (.slice a n c) (.slice none n' c')).run Tryd.prog w = .ok (.bool a.isNone) w := Lib.run_eql_slice_nil w _ _ a n c n' c' Tryd.underlying44

/-- The zeroing loop of extendSet behind m rounds. -/
def ExtInv (w wr : World) (b sb L N n cap : Nat) (C : Array Value) (m : Nat) : Prop :=
  ∃ C', Blk wr b #[.int .u64 L, .slice (some ⟨sb, 0, none⟩) N cap] ∧ Blk wr sb C' ∧ C'.size = cap ∧ (∀ j, j < n → C'[j]? = C[j]?) ∧ (∀ j, n ≤ j → j < n + m → C'[j]? = some (.int .u64 0)) ∧ Ch (S2 b sb) w wr

theorem ExtInv.step {w wr : World} {b sb L N n cap : Nat} {C : Array Value} {m : Nat} (hne : b ≠ sb) (h : ExtInv w wr b sb L N n cap C m) (hm : n + m < cap) :
    ExtInv w (wr.setCell ⟨sb, n + m, none⟩ (.int .u64 0)) b sb L N n cap C (m + 1) := by
  obtain ⟨C', h1, h2, h3, h4, h5, h6⟩ := h
  refine ⟨C'.setIfInBounds (n + m) (.int .u64 0), h1.setOther (by simpa using Ne.symm hne) _, h2.set _ _, by simpa using h3, fun j hj => ?_, fun j hj hj2 => ?_, h6.setCell _ (fun _ => Or.inr rfl) _⟩
  · rw [Array.getElem?_setIfInBounds_ne (by omega)]; exact h4 j hj
  · by_cases e : n + m = j
    · subst e; rw [Array.getElem?_setIfInBounds_self_of_lt (by omega)]
    · rw [Array.getElem?_setIfInBounds_ne e]; exact h5 j hj (by omega)

theorem ExtInv.cell {w wr : World} {b sb L N n cap : Nat} {C : Array Value} {m : Nat} (h : ExtInv w wr b sb L N n cap C m) (j : Nat) (hj : j < cap) : ∃ v, wr.cell? ⟨sb, j, none⟩ = some v := by
  obtain ⟨C', h1, h2, h3, h4, h5, h6⟩ := h
  rw [h2.cell]
  exact ⟨_, Array.getElem?_eq_getElem (by omega)⟩

theorem ExtInv.facts {w wr : World} {b sb L N n cap : Nat} {C : Array Value} {m : Nat} (h : ExtInv w wr b sb L N n cap C m) :
    (∀ j, wr.frozen? ⟨sb, j, none⟩ = false) ∧ wr.frozen? ⟨b, 0, none⟩ = false ∧ wr.cell? ⟨b, 0, none⟩ = some (.int .u64 L) := by
  obtain ⟨C', h1, h2, h3, h4, h5, h6⟩ := h
  exact ⟨h2.free, h1.free 0, by rw [h1.cell]; rfl⟩

/-- What extendSet leaves within the capacity. -/
def Extended (w w' : World) (b sb i n cap : Nat) (C : Array Value) : Prop := ∃ C', Blk w' b #[.int .u64 (i + 1 : Nat), .slice (some ⟨sb, 0, none⟩) (nw (i + 1)) cap] ∧ Blk w' sb C' ∧ C'.size = cap ∧
      (∀ j, j < n → C'[j]? = C[j]?) ∧ (∀ j, n ≤ j → j < nw (i + 1) → C'[j]? = some (.int .u64 0)) ∧ Ch (S2 b sb) w w'

theorem ExtInv.done {w wr : World} {b sb L n cap i m : Nat} {C : Array Value} (hne : b ≠ sb) (h : ExtInv w wr b sb L (nw (i + 1)) n cap C m) (hm : nw (i + 1) ≤ n + m) :
    Extended w (wr.setCell ⟨b, 0, none⟩ (.int .u64 ((i : Int) + 1))) b sb i n cap C := by
  obtain ⟨C', h1, h2, h3, h4, h5, h6⟩ := h
  refine ⟨C', ?_, h2.setOther (by simpa using hne) _, h3, h4, fun j hj hj2 => h5 j hj (by omega), h6.setCell _ (fun _ => Or.inl rfl) _⟩
  have := h1.set 0 (.int .u64 ((i : Int) + 1))
  simpa using this

set_option maxHeartbeats 400000 in
set_option maxRecDepth 100000 in
theorem extend_room (b sb L n cap i : Nat) (C : Array Value) (w : World) (hne : b ≠ sb) (hi : i ≤ 90000) (hL : n ≤ nw (i + 1)) (hcap : nw (i + 1) ≤ cap) (hC : C.size = cap) (hcap2 : cap ≤ 100000)
    (hb : Blk w b #[.int .u64 L, .slice (some ⟨sb, 0, none⟩) n cap]) (hs : Blk w sb C) :
    Calls Tryd.prog 22 #[.pointer (some ⟨b, 0, none⟩), .int .u64 i] w fun e w' => e = .returned (.tuple #[]) ∧ Extended w w' b sb i n cap C := by
  have hnil := nil74
  have h0 := hb.cell 0
  have h1 := hb.cell 1
  have f0 := hb.free 0
  have f1 := hb.free 1
  simp at h0 h1
  have hE : ExtInv w (w.setCell ⟨b, 1, none⟩ (.slice (some ⟨sb, 0, none⟩) (nw (i + 1)) cap)) b sb L (nw (i + 1)) n cap C 0 := by
    refine ⟨C, ?_, hs.setOther (by simpa using hne) _, hC, fun _ _ => rfl, fun j hj hj2 => by omega, (Ch.refl _ _).setCell _ (fun _ => Or.inl rfl) _⟩
    have := hb.set 1 (.slice (some ⟨sb, 0, none⟩) (nw (i + 1)) cap)
    simpa using this
  clear hb hs hC
  have hbig : decide (CAP ≤ (i : Int)) = false := decide_eq_false (by unfold CAP; omega)
  go_enter Tryd.func22, Tryd.ntmps22
  go_wp2_with (first | (go_at_call 33; refine (cap_any' _).mono ?_; rintro e w' ⟨rfl, rfl⟩) | (go_at_call 32; refine (wordsNeeded_any (i + 1) _ (by omega) (by omega) _).mono ?_; rintro e w' ⟨rfl, rfl⟩))
  · go_loopw [58] (fun k wr => ∃ m : Nat, m ≤ nw (i + 1) - n ∧ k = .int .i64 m ∧ ExtInv w wr b sb L (nw (i + 1)) n cap C m) (fun k _ => nw (i + 1) - n - (intOf k).toNat)
    case atStart => exact ⟨0, Nat.zero_le _, rfl, hE⟩
    case round =>
      obtain ⟨m, hm, rfl, hI⟩ := hrel
      obtain ⟨ff, fb, cb⟩ := hI.facts
      by_cases hlt : m < nw (i + 1) - n
      · obtain ⟨v, hv⟩ := hI.cell (n + m) (by omega)
        have hfv := ff (n + m)
        clear ff
        go_wp2
        go_roundw
        case rel => exact ⟨m + 1, by omega, by go_num, hI.step hne (by omega)⟩
        case measure => simp [intOf]; omega
      · clear ff
        go_wp2
        go_end0
        exact ⟨rfl, hI.done hne (by omega)⟩
  · go_end0
    exact ⟨rfl, hE.done hne (by omega)⟩

set_option maxHeartbeats 400000 in
set_option maxRecDepth 100000 in
theorem extend_grow (b sb L n cap i : Nat) (C : Array Value) (w : World) (hne : b ≠ sb) (hi : i ≤ 90000) (hL : n ≤ cap) (hcap : cap < nw (i + 1)) (hC : C.size = cap)
    (hb : Blk w b #[.int .u64 L, .slice (some ⟨sb, 0, none⟩) n cap]) (hs : Blk w sb C) (hx : ∀ j, j < n → ∃ x : Int, C[j]? = some (.int .u64 x)) :
    Calls Tryd.prog 22 #[.pointer (some ⟨b, 0, none⟩), .int .u64 i] w fun e w' => e = .returned (.tuple #[]) ∧
      ∃ C', Blk w' b #[.int .u64 (i + 1 : Nat), .slice (some ⟨w.heap.size, 0, none⟩) (nw (i + 1)) (2 * nw (i + 1))] ∧ Blk w' w.heap.size C' ∧ C'.size = 2 * nw (i + 1) ∧
      (∀ j, j < n → C'[j]? = C[j]?) ∧ (∀ j, n ≤ j → j < nw (i + 1) → C'[j]? = some (.int .u64 0)) ∧ Ch (S2 b sb) w w' := by
  have hnil := nil74
  have h0 := hb.cell 0
  have h1 := hb.cell 1
  have f0 := hb.free 0
  have f1 := hb.free 1
  simp at h0 h1
  have hbl := hb.lt
  have hsl := hs.lt
  have hN : nw (i + 1) ≤ 2000 := by unfold nw; omega
  have hbig : decide (CAP ≤ (i : Int)) = false := decide_eq_false (by unfold CAP; omega)
  have hmk : ∀ w, (Instr.makeSlice 44 (.int .i64 ((nw (i + 1) : Nat) : Int)) (.int .i64 (2 * ((nw (i + 1) : Nat) : Int)))).run Tryd.prog w = .ok (.slice (some ⟨w.heap.size, 0, none⟩) (nw (i + 1)) (2 * nw (i + 1))) (w.alloc (.cells (Array.replicate (2 * nw (i + 1)) (.int .u64 0)) 48)) :=
    fun w => by have := make74 (nw (i + 1)) (2 * nw (i + 1)) (by omega) (by omega) w; rw [Int.natCast_mul] at this; exact this
  obtain ⟨W2, hcp, ⟨C2, k1, k2, k3, k4⟩, k5⟩ := copy74 (w.alloc (.cells (Array.replicate (2 * nw (i + 1)) (.int .u64 0)) 48)) w.heap.size sb _ C (Blk.new _ _ _) (hs.alloc _) (nw (i + 1)) (2 * nw (i + 1)) n cap n (Nat.min_eq_left (by omega)).symm hx (by simp; omega)
  have kb := (hb.alloc (.cells (Array.replicate (2 * nw (i + 1)) (.int .u64 0)) 48)).keep k5 (show ¬ b = _ by omega)
  have g0 := kb.cell 0
  have g1 := kb.cell 1
  have e0 := kb.free 0
  have e1 := kb.free 1
  simp at g0 g1
  have hfin : ∃ C', Blk ((W2.setCell ⟨b, 1, none⟩ (.slice (some ⟨w.heap.size, 0, none⟩) (nw (i + 1)) (2 * nw (i + 1)))).setCell ⟨b, 0, none⟩ (.int .u64 ((i : Int) + 1))) b #[.int .u64 (i + 1 : Nat), .slice (some ⟨w.heap.size, 0, none⟩) (nw (i + 1)) (2 * nw (i + 1))] ∧
      Blk ((W2.setCell ⟨b, 1, none⟩ (.slice (some ⟨w.heap.size, 0, none⟩) (nw (i + 1)) (2 * nw (i + 1)))).setCell ⟨b, 0, none⟩ (.int .u64 ((i : Int) + 1))) w.heap.size C' ∧ C'.size = 2 * nw (i + 1) ∧
      (∀ j, j < n → C'[j]? = C[j]?) ∧ (∀ j, n ≤ j → j < nw (i + 1) → C'[j]? = some (Value.int .u64 0)) ∧
      Ch (S2 b sb) w ((W2.setCell ⟨b, 1, none⟩ (.slice (some ⟨w.heap.size, 0, none⟩) (nw (i + 1)) (2 * nw (i + 1)))).setCell ⟨b, 0, none⟩ (.int .u64 ((i : Int) + 1))) := by
    refine ⟨C2, ?_, (k1.setOther (show b ≠ _ by omega) _).setOther (show b ≠ _ by omega) _, by simpa using k2, k3, fun j hj hj2 => ?_, ?_⟩
    · have := (kb.set 1 (.slice (some ⟨w.heap.size, 0, none⟩) (nw (i + 1)) (2 * nw (i + 1)))).set 0 (.int .u64 ((i : Int) + 1))
      simpa using this
    · rw [k4 j hj, Array.getElem?_replicate, if_pos (by omega)]
    · exact (Ch.setCell (Ch.setCell ((((Ch.refl _ _).alloc _)).trans' k5 (fun x hx e => by simp only [S1] at e; omega)) _ (fun _ => Or.inl rfl) _) _ (fun _ => Or.inl rfl) _)
  have Hb := Lib.hid hb
  have Hs := Lib.hid hs
  have HC := Lib.hid hC
  have Hx := Lib.hid hx
  have Hf := Lib.hid hfin
  clear hb hs hC hx hfin k1 k2 k3 k4 k5 kb
  go_enter Tryd.func22, Tryd.ntmps22
  go_wp2_with (first | (go_at_call 33; refine (cap_any' _).mono ?_; rintro e w' ⟨rfl, rfl⟩) | (go_at_call 32; refine (wordsNeeded_any (i + 1) _ (by omega) (by omega) _).mono ?_; rintro e w' ⟨rfl, rfl⟩))
  go_end0
  exact ⟨rfl, Hf.out⟩

end Go.Proofs.YtdkhanfapgnjoaaDoor
