/- WALKS: said64, with the block in which what it tells stands. -/
import Derived.Test.YtgnhmgnpmbmjcaaVe
namespace Go.Proofs.Ytgnhmgnpmbmjcaa
open Go.RowKit
set_option linter.unusedVariables false
set_option linter.unusedSimpArgs false

/-- A bitset as plain data, its numbers all in block q. -/
structure IsQ (q : Nat) (w : World) (v : Value) (L : Nat) (g : Nat → Bool) : Prop where
  small : L ≤ 20000
  off : ∀ k, L ≤ k → g k = false
  val : ∃ A cap, v = .agg #[.int .u64 L, .slice A (places g L).length cap] ∧ ∀ j (hj : j < (places g L).length), A = some ⟨q, 0, none⟩ ∧ w.cell? ⟨q, j, none⟩ = some (.int .u64 ((places g L)[j] : Nat))

theorem IsQ.keep {S : Nat → Prop} {q : Nat} {w w' : World} {v : Value} {L : Nat} {g : Nat → Bool} (h : IsQ q w v L g) (hc : Ch S w w') (hq : ¬ S q) : IsQ q w' v L g := by
  obtain ⟨h0, h1, A, cap, h2, h3⟩ := h
  refine ⟨h0, h1, A, cap, h2, fun j hj => ⟨(h3 j hj).1, ?_⟩⟩
  have h4 := (h3 j hj).2
  rw [World.cell?_of_block (w := w) (hc.block q (World.block_lt_of_cell? w _ h4) hq)]
  exact h4
theorem IsQ.isB {q : Nat} {w : World} {v : Value} {L : Nat} {g : Nat → Bool} (h : IsQ q w v L g) : IsB 0 w v L g := by
  obtain ⟨h0, h1, A, cap, h2, h3⟩ := h
  exact ⟨h0, h1, _, h2, A, cap, rfl, fun j hj => ⟨q, 0, Nat.zero_le _, (h3 j hj).1, by rw [Nat.zero_add]; exact (h3 j hj).2⟩⟩
theorem own_q {w : World} {base : Nat} {v : Value} {xs : List Nat} (h : w.ownsRow base 22 1 v xs.length (xs.map fun x => Value.int .u64 (x : Nat))) (hb : base ≤ w.heap.size) :
    ∃ q A cap, base ≤ q ∧ v = .slice A xs.length cap ∧ ∀ j (hj : j < xs.length), A = some ⟨q, 0, none⟩ ∧ w.cell? ⟨q, j, none⟩ = some (.int .u64 (xs[j] : Nat)) := by
  obtain ⟨h1, h2⟩ := h
  rcases h2 with ⟨rfl, h2⟩ | ⟨g, cap, cur, rfl, hb, hh, h3, h4, h5, h6⟩
  · exact ⟨base, none, 0, Nat.le_refl _, by rw [h2], fun j hj => by omega⟩
  · refine ⟨g, _, cap, hb, rfl, fun j hj => ⟨rfl, ?_⟩⟩
    have := congrArg (fun l => l[j]?) h6
    simp only [Nat.mul_one, List.getElem?_take, hj, if_true, List.getElem?_map, List.getElem?_eq_getElem hj, Option.map_some] at this
    simp only [World.cell?, hh]
    simpa using this
theorem SaidInv.doneQ {W : World} {X : World → Prop} {wr : World} {L : Nat} {g : Nat → Bool} {v : Value} (h : SaidInv W X wr L g L v) (hL : L ≤ 20000) (hoff : ∀ k, L ≤ k → g k = false) :
    ∃ q, IsQ q ((wr.setCell ⟨W.heap.size, 0, none⟩ (.int .u64 L)).setCell ⟨W.heap.size, 1, none⟩ v) (.agg #[.int .u64 L, v]) L g ∧ W.heap.size + 2 ≤ q ∧ Ch S0 W ((wr.setCell ⟨W.heap.size, 0, none⟩ (.int .u64 L)).setCell ⟨W.heap.size, 1, none⟩ v) := by
  have hsz := h.blk.lt
  obtain ⟨q, A, cap, h1, rfl, h3⟩ := own_q (w := (wr.setCell ⟨W.heap.size, 0, none⟩ (.int .u64 L)).setCell ⟨W.heap.size, 1, none⟩ v) (base := W.heap.size + 2) (own_set (own_set h.own (by simp) _) (by simp) _) (by simp; omega)
  exact ⟨q, ⟨hL, hoff, A, cap, rfl, h3⟩, h1, (h.ch.setCell _ (fun hl => by simp at hl) _).setCell _ (fun hl => by simp at hl) _⟩

set_option maxHeartbeats 400000 in
/-- said64: the plain data of a bitset. -/
theorem said64_q (b sb L : Nat) (g : Nat → Bool) (w : World) (h : BS w b sb L g) (hL : L ≤ 20000) :
    Calls Try.prog 44 #[.pointer (some ⟨b, 0, none⟩)] w fun e w' => ∃ v q, e = .returned v ∧ IsQ q w' v L g ∧ w.heap.size ≤ q ∧ Ch S0 w w' := by
  obtain ⟨i0, hi0, hz0, hz1, hz2⟩ := info_parts Try.info22
  have hl := h.lt
  have hX : Stays w.heap.size (fun wr => BS wr b sb L g) := fun w1 w2 hc hb => hb.keep hc (by omega) (by omega)
  have hoff := h.off
  have hI : SaidInv w (fun wr => BS wr b sb L g) ((w.alloc (Obj.cells #[Value.int IntKind.u64 0, Value.slice none 0 0] 25)).alloc (Obj.cells #[Value.int IntKind.u64 ↑L, Value.slice none 0 0] 25)) L g 0 (.slice none 0 0) := by
    have hc : Ch S0 w ((w.alloc (Obj.cells #[Value.int IntKind.u64 0, Value.slice none 0 0] 25)).alloc (Obj.cells #[Value.int IntKind.u64 ↑L, Value.slice none 0 0] 25)) := ((Ch.refl _ _).alloc _).alloc _
    refine ⟨(Blk.new _ _ _).alloc _, ?_, World.ownsRow_nil _ _ _ _, h.keep hc (fun h => h) (fun h => h), hc⟩
    have := Blk.new (w.alloc (Obj.cells #[Value.int IntKind.u64 0, Value.slice none 0 0] 25)) #[Value.int IntKind.u64 ↑L, Value.slice none 0 0] 25
    simpa using this
  have H := Lib.hid h
  have HX := Lib.hid hX
  have HO := Lib.hid hoff
  clear h hX hoff
  go_enter Try.func44, Try.ntmps44
  go_wp2_with (go_at_call 78; refine (len_any b sb L g _ (H.out.keep (S := S0) ((Ch.refl _ _).alloc _) (fun h => h) (fun h => h))).mono ?_; rintro e w' ⟨rfl, rfl⟩)
  go_loopw [4] (fun k wr => ∃ (m : Nat) (v : Value), m ≤ L ∧ k = .int .u64 m ∧ SaidInv w (fun wr => BS wr b sb L g) wr L g m v) (fun k _ => L - (intOf k).toNat)
  case atStart => exact ⟨0, _, Nat.zero_le _, rfl, hI⟩
  case round =>
    obtain ⟨m, v, hm, rfl, hJ⟩ := hrel
    have c0 : wr.cell? ⟨w.heap.size + 1, 0, none⟩ = some (.int .u64 L) := by rw [hJ.blk.cell]; rfl
    have c1 : wr.cell? ⟨w.heap.size + 1, 1, none⟩ = some v := by rw [hJ.blk.cell]; rfl
    by_cases hlt : m < L
    · have HJ := Lib.hid hJ
      clear hI
      cases hg : g m
      · have T := Lib.hid (test_any b sb L m g wr hJ.aux (by omega) m rfl)
        rw [hg] at T
        have Hg := Lib.hid hg
        clear hg hJ
        go_wp2_with (go_at_call 46; refine T.out.mono ?_; rintro e w2 ⟨rfl, hC2⟩; have HC2 := Lib.hid hC2; clear hC2)
        go_roundw
        case rel => exact ⟨m + 1, v, by omega, by go_num, (HJ.out.keep HX.out HC2.out).skip Hg.out⟩
        case measure => simp [intOf]; omega
      · have T := Lib.hid (test_any b sb L m g wr hJ.aux (by omega) m rfl)
        rw [hg] at T
        have Hg := Lib.hid hg
        clear hg hJ
        go_wp2_with fail
        refine T.out.mono ?_
        rintro e w2 ⟨rfl, hC2⟩
        have hJ2 := HJ.out.keep HX.out hC2
        have k1 : w2.cell? ⟨w.heap.size + 1, 1, none⟩ = some v := by rw [hJ2.blk.cell]; rfl
        have hown := hJ2.own
        have hsz := hJ2.blk.lt
        have hpl := places_len g m
        have HJ2 := Lib.hid hJ2
        clear hC2 hJ2 c0 c1
        go_wp2_with (at_builtin; go_loud (refine app22 rfl _ _ rfl (w.heap.size + 2) _ v _ rfl hown (.int .u64 (m : Nat)) rfl rfl (by omega) (by omega) ?_); intro A' n' c' w3 hown3 hgr3; obtain ⟨⟨q0, q1⟩, hfin⟩ := HJ2.out.grow HX.out Hg.out hown3 hgr3; have HF := Lib.hid hfin; clear hown3 hgr3 hfin)
        go_roundw
        case rel => exact ⟨m + 1, _, by omega, by go_num, HF.out⟩
        case measure => simp [intOf]; omega
    · have hm2 : m = L := by omega
      subst hm2
      have r0 : wr.cell? ⟨w.heap.size, 0, none⟩ = some (.int .u64 0) := by rw [hJ.res.cell]; rfl
      have r1 : wr.cell? ⟨w.heap.size, 1, none⟩ = some (.slice none 0 0) := by rw [hJ.res.cell]; rfl
      have q0 := hJ.res.free 0
      have q1 := hJ.res.free 1
      obtain ⟨q, hq⟩ := hJ.doneQ hL HO.out
      have HD := Lib.hid hq
      clear hq
      obtain ⟨A, n, c, rfl⟩ : ∃ A n c, v = .slice A n c := by
        rcases hJ.own.2 with ⟨rfl, _⟩ | ⟨g, cap, cur, rfl, _⟩ <;> exact ⟨_, _, _, rfl⟩
      clear hJ hI
      go_wp2
      exact bodyPost_ret (v := .agg #[.int .u64 m, .slice A n c]) (by simp [results, Try.results44, go_sem, r0, r1, q0, q1]) rfl ⟨_, q, rfl, HD.out.1, by have := HD.out.2.1; omega, HD.out.2.2⟩

end Go.Proofs.Ytgnhmgnpmbmjcaa
