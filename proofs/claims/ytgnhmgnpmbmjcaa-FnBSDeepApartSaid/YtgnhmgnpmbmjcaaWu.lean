/- MEMORY: a bitset whose words are moved to a place of the same block or of another one. -/
import Derived.Test.YtgnhmgnpmbmjcaaWt
namespace Go.Proofs.Ytgnhmgnpmbmjcaa
open Go.RowKit
set_option linter.unusedVariables false
set_option linter.unusedSimpArgs false

theorem wd_mix_lt (m j : Nat) (f g : Nat → Bool) (h : j < m) : Bit.wd (mix m f g) j = Bit.wd f j := Bit.wd_congr fun k hk => by unfold mix; rw [if_pos (by omega)]
theorem wd_mix_ge (m j : Nat) (f g : Nat → Bool) (h : m ≤ j) : Bit.wd (mix m f g) j = Bit.wd g j := Bit.wd_congr fun k hk => by unfold mix; rw [if_neg (by omega)]

/-- b's words (below lim) in sb are g's; the M words in db are f's. -/
structure Mv (w : World) (b sb db L' n0 cap M capd : Nat) (g f : Nat → Bool) (lim : Nat) : Prop where
  hne : b ≠ sb
  hnd : b ≠ db
  hb : Blk w b #[.int .u64 (L' : Nat), .slice (some ⟨sb, 0, none⟩) n0 cap]
  hs : ∃ S, Blk w sb S ∧ ∀ j, j < lim → S[j]? = some (.int .u64 (Bit.wd g j : Nat))
  hd : ∃ C, Blk w db C ∧ C.size = capd ∧ ∀ j, j < M → C[j]? = some (.int .u64 (Bit.wd f j : Nat))

theorem Mv.look {w : World} {b sb db L' n0 cap M capd lim : Nat} {g f : Nat → Bool} (h : Mv w b sb db L' n0 cap M capd g f lim) :
    w.cell? ⟨b, 0, none⟩ = some (.int .u64 (L' : Nat)) ∧ w.cell? ⟨b, 1, none⟩ = some (.slice (some ⟨sb, 0, none⟩) n0 cap) ∧ w.frozen? ⟨b, 0, none⟩ = false ∧ w.frozen? ⟨b, 1, none⟩ = false ∧
    (∀ j, j < lim → w.cell? ⟨sb, j, none⟩ = some (.int .u64 (Bit.wd g j : Nat))) ∧ (∀ j, j < M → w.cell? ⟨db, j, none⟩ = some (.int .u64 (Bit.wd f j : Nat))) ∧ (∀ j, w.frozen? ⟨db, j, none⟩ = false) := by
  obtain ⟨_, _, hb, ⟨S, h1, h2⟩, C, h3, h4, h5⟩ := h
  exact ⟨by rw [hb.cell]; rfl, by rw [hb.cell]; rfl, hb.free 0, hb.free 1, fun j hj => by rw [h1.cell, h2 j hj], fun j hj => by rw [h3.cell, h5 j hj], fun j => h3.free j⟩
theorem Mv.drew {w : World} {b sb db L' n0 cap M capd lim : Nat} {g f : Nat → Bool} (h : Mv w b sb db L' n0 cap M capd g f lim) : Mv w.drew b sb db L' n0 cap M capd g f lim := ⟨h.hne, h.hnd, h.hb, h.hs, h.hd⟩
theorem Mv.to {w : World} {b sb db L' n0 cap M capd lim : Nat} {g f f' : Nat → Bool} (h : Mv w b sb db L' n0 cap M capd g f lim) (e : ∀ j, j < M → Bit.wd f j = Bit.wd f' j) : Mv w b sb db L' n0 cap M capd g f' lim := by
  obtain ⟨h1, h2, h3, h4, C, h5, h6, h7⟩ := h
  exact ⟨h1, h2, h3, h4, C, h5, h6, fun j hj => by rw [← e j hj]; exact h7 j hj⟩
theorem Mv.store {w : World} {b sb db L' n0 cap M capd lim lim' : Nat} {g f f' : Nat → Bool} (h : Mv w b sb db L' n0 cap M capd g f lim) (i : Nat) {x : Int} (hi : i < M) (hMc : M ≤ capd) (hx : x = ((Bit.wd f' i : Nat) : Int)) (ho : ∀ j, j ≠ i → j < M → Bit.wd f' j = Bit.wd f j) (hl : lim' ≤ lim) (hl2 : lim' ≤ i) :
    Mv (w.setCell ⟨db, i, none⟩ (.int .u64 x)) b sb db L' n0 cap M capd g f' lim' := by
  obtain ⟨h1, h2, hb, ⟨S, k1, k2⟩, C, k3, k4, k5⟩ := h
  subst hx
  refine ⟨h1, h2, hb.setOther (by simpa using Ne.symm h2) _, ?_, C.setIfInBounds i (.int .u64 (Bit.wd f' i : Nat)), k3.set _ _, by simpa using k4, fun j hj => ?_⟩
  · by_cases e : db = sb
    · subst e
      refine ⟨S.setIfInBounds i _, k1.set _ _, fun j hj => ?_⟩
      rw [Array.getElem?_setIfInBounds_ne (by omega)]; exact k2 j (by omega)
    · exact ⟨S, k1.setOther (by simpa using e) _, fun j hj => k2 j (by omega)⟩
  · by_cases e : i = j
    · subst e; rw [Array.getElem?_setIfInBounds_self_of_lt (by omega)]
    · rw [Array.getElem?_setIfInBounds_ne e, ho j (Ne.symm e) hj]; exact k5 j hj
theorem Mv.done {w : World} {b sb db L' n0 cap M capd lim : Nat} {g f : Nat → Bool} (h : Mv w b sb db L' n0 cap M capd g f lim) (hM : M = nw L') (hc : M ≤ capd) (hc2 : capd ≤ 100000) (hoff : ∀ k, L' ≤ k → f k = false) :
    BS (w.setCell ⟨b, 1, none⟩ (.slice (some ⟨db, 0, none⟩) M capd)) b db L' f := by
  obtain ⟨h1, h2, hb, _, C, k3, k4, k5⟩ := h
  subst hM
  refine ⟨h2, hoff, capd, C, ?_, k3.setOther (by simpa using h2) _, k4, hc, hc2, k5⟩
  have := hb.set 1 (.slice (some ⟨db, 0, none⟩) (nw L') capd)
  simpa using this
/-- In the same block. -/
theorem BS.mvIn {w : World} {b sb L cap : Nat} {g : Nat → Bool} (h : BS w b sb L g) (hc : w.cell? ⟨b, 1, none⟩ = some (.slice (some ⟨sb, 0, none⟩) (nw L) cap)) : Mv w b sb sb L (nw L) cap (nw L) cap g g (nw L) := by
  obtain ⟨hne, _, cap', C, h1, h2, h3, h4, h5, h6⟩ := h
  rw [h1.cell] at hc
  simp at hc
  subst hc
  exact ⟨hne, hne, h1, ⟨C, h2, h6⟩, C, h2, h3, h6⟩
theorem Mv.len {w : World} {b sb db L' L'' n0 cap M capd lim : Nat} {g f : Nat → Bool} (h : Mv w b sb db L' n0 cap M capd g f lim) {x : Int} (hx : x = L'') : Mv (w.setCell ⟨b, 0, none⟩ (.int .u64 x)) b sb db L'' n0 cap M capd g f lim := by
  obtain ⟨h1, h2, hb, ⟨S, k1, k2⟩, C, k3, k4, k5⟩ := h
  subst hx
  refine ⟨h1, h2, ?_, ⟨S, k1.setOther (by simpa using h1) _, k2⟩, C, k3.setOther (by simpa using h2) _, k4, k5⟩
  have := hb.set 0 (.int .u64 (L'' : Nat))
  simpa using this
/-- In a new block of M words. -/
theorem BS.mvNew {w : World} {b sb L cap : Nat} {g : Nat → Bool} (h : BS w b sb L g) (hc : w.cell? ⟨b, 1, none⟩ = some (.slice (some ⟨sb, 0, none⟩) (nw L) cap)) (M : Nat) : Mv (w.alloc (.cells (Array.replicate M (.int .u64 0)) 38)) b sb w.heap.size L (nw L) cap M M g (fun _ => false) (nw L) := by
  have hl := h.lt
  obtain ⟨hne, _, cap', C, h1, h2, h3, h4, h5, h6⟩ := h
  rw [h1.cell] at hc
  simp at hc
  subst hc
  refine ⟨hne, by omega, h1.alloc _, ⟨C, h2.alloc _, h6⟩, _, Blk.new _ _ _, by simp, fun j hj => ?_⟩
  rw [Bit.wd_zero (fun _ _ => rfl)]
  simp [hj]
/-- copy(dst[P:..], src): k words. -/
theorem Mv.copy {w : World} {b sb db L' n0 cap M capd lim : Nat} {g f : Nat → Bool} (h : Mv w b sb db L' n0 cap M capd g f lim) (P k dl dc sl sc : Nat) (hk : k = Nat.min sl dl) (hkl : k ≤ lim) (hfit : P + k ≤ capd) (f' : Nat → Bool)
    (hf1 : ∀ j, j < k → Bit.wd f' (P + j) = Bit.wd g j) (hf2 : ∀ j, j < M → (j < P ∨ P + k ≤ j) → Bit.wd f' j = Bit.wd f j) :
    ∃ W2, (∀ ty, (Builtin.copy_ #[74, 74] ty #[.slice (some ⟨db, P, none⟩) dl dc, .slice (some ⟨sb, 0, none⟩) sl sc]).run Try.prog w = .ok (goInt k) W2) ∧ Mv W2 b sb db L' n0 cap M capd g f' 0 ∧ Ch (S1 db) w W2 := by
  obtain ⟨h1, h2, hb, ⟨S, k1, k2⟩, C, k3, k4, k5⟩ := h
  have hkC : k ≤ S.size := by
    by_cases h0 : k = 0
    · omega
    · have := k2 (k - 1) (by omega)
      have := (Array.getElem?_eq_some_iff.1 this).1
      omega
  have hlen : (S.toList.take k).length = k := by simp; omega
  have hr := run_copy_row Try.prog w 74 74
  obtain ⟨T, hgT⟩ := k3
  have hPl : (C.toList.take P).length = P := by simp; omega
  refine ⟨w.setRow db (C.toList.take P ++ S.toList.take k ++ C.toList.drop (P + k)).toArray, fun ty => ?_, ⟨h1, h2, hb.rowOther (Ne.symm h2) _, ?_, _, Blk.row ⟨T, hgT⟩ _, by simp; omega, fun j hj => ?_⟩, (Ch.refl (S1 db) w).setRow db (fun _ => rfl) _⟩
  · have := hr ty 38 db P dl dc ⟨sb, 0, none⟩ sl sc C T (S.toList.take k) Try.underlying74 one38 hgT (by rw [hlen, hk])
      (fun j v hv => by
        rw [show ((⟨sb, 0, none⟩ : Addr).add j) = ⟨sb, j, none⟩ from by simp [Addr.add, eq_comm], k1.cell]
        rw [List.getElem?_take] at hv
        split at hv
        · simpa using hv
        · simp at hv) (by rw [hlen]; omega) (fun v hv => by
        obtain ⟨j, hj, rfl⟩ := List.getElem_of_mem hv
        simp only [hlen] at hj
        have hx := k2 j (by omega)
        have hjC : j < S.size := by omega
        rw [Array.getElem?_eq_getElem hjC] at hx
        have hx' := Option.some.inj hx
        simp only [List.getElem_take, Array.getElem_toList, hx']
        rfl)
    rw [this, hlen]
  · by_cases e : db = sb
    · subst e; exact ⟨_, Blk.row k1 _, fun j hj => by omega⟩
    · exact ⟨S, k1.rowOther e _, fun j hj => by omega⟩
  · have hx := fun i (hi : i < k) => k2 i (by omega)
    by_cases q1 : j < P
    · rw [hf2 j hj (Or.inl q1), ← k5 j hj]
      rw [List.getElem?_toArray, List.append_assoc, List.getElem?_append_left (by omega), List.getElem?_take, if_pos q1, Array.getElem?_toList]
    · by_cases q2 : j < P + k
      · have e : j = P + (j - P) := by omega
        rw [e, hf1 _ (by omega), ← hx (j - P) (by omega)]
        rw [List.getElem?_toArray, List.append_assoc, List.getElem?_append_right (by omega), hPl, List.getElem?_append_left (by omega), List.getElem?_take, if_pos (by omega), Array.getElem?_toList, show P + (j - P) - P = j - P from by omega]
      · rw [hf2 j hj (Or.inr (by omega)), ← k5 j hj]
        rw [List.getElem?_toArray, List.append_assoc, List.getElem?_append_right (by omega), hPl, List.getElem?_append_right (by omega), hlen, List.getElem?_drop, Array.getElem?_toList, show P + k + (j - P - k) = j from by omega]
end Go.Proofs.Ytgnhmgnpmbmjcaa
