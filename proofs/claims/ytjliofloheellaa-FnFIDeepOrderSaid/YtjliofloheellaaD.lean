/- WALKS: Get, Exists, Len, Set. -/
import Derived.Test.YtjliofloheellaaB2
import Derived.Test.YtjliofloheellaaF
namespace Go.Proofs.Ytjliofloheellaa
open Go.RowKit
set_option linter.unusedVariables false
set_option linter.unusedSimpArgs false

set_option maxRecDepth 100000 in
theorem fiGet_any {base : Nat} (fb tb e c k : Nat) (T : Nat → Option Pk) (m : Nat → Option Nat) (w : World) (h : FI base w fb tb e T m c) :
    Calls Try.prog 7 #[.pointer (some ⟨fb, 0, none⟩), .int .u64 k] w fun r w' => r = .returned (.tuple #[.int .u64 ((m k).getD 0 : Nat), .bool (m k).isSome]) ∧ w = w' := by
  have HC := Lib.hid (get_any tb (2 ^ e) e k T m w rfl (by have := h.small; omega) h.arr h.tab h.rep h.room)
  have x1 := h.blk.cell 1
  simp only [List.getElem?_toArray, List.getElem?_cons_zero, List.getElem?_cons_succ] at x1
  obtain ⟨N, hN⟩ : ∃ N, 2 ^ e = N := ⟨_, rfl⟩
  rw [hN] at HC x1
  obtain ⟨v, hv⟩ : ∃ v, (m k).getD 0 = v := ⟨_, rfl⟩
  obtain ⟨b, hb⟩ : ∃ b, (m k).isSome = b := ⟨_, rfl⟩
  rw [hv, hb] at HC ⊢
  clear h hN hv hb
  go_enter Try.func7, Try.ntmps7
  go_wp2_with fail
  refine HC.out.mono ?_
  rintro r w1 ⟨rfl, rfl⟩
  go_wp2_with fail
  go_ret2
  exact ⟨rfl, rfl⟩
set_option maxRecDepth 100000 in
theorem fiExists_any {base : Nat} (fb tb e c k : Nat) (T : Nat → Option Pk) (m : Nat → Option Nat) (w : World) (h : FI base w fb tb e T m c) :
    Calls Try.prog 8 #[.pointer (some ⟨fb, 0, none⟩), .int .u64 k] w fun r w' => r = .returned (.bool (m k).isSome) ∧ w = w' := by
  have HC := Lib.hid (exists_any tb (2 ^ e) e k T m w rfl (by have := h.small; omega) h.arr h.tab h.rep h.room)
  have x1 := h.blk.cell 1
  simp only [List.getElem?_toArray, List.getElem?_cons_zero, List.getElem?_cons_succ] at x1
  obtain ⟨N, hN⟩ : ∃ N, 2 ^ e = N := ⟨_, rfl⟩
  rw [hN] at HC x1
  obtain ⟨b, hb⟩ : ∃ b, (m k).isSome = b := ⟨_, rfl⟩
  rw [hb] at HC ⊢
  clear h hN hb
  go_enter Try.func8, Try.ntmps8
  go_wp2_with fail
  refine HC.out.mono ?_
  rintro r w1 ⟨rfl, rfl⟩
  go_wp2_with fail
  go_ret
  exact ⟨rfl, rfl⟩
set_option maxRecDepth 100000 in
theorem fiLen_any {base : Nat} (fb tb e c : Nat) (T : Nat → Option Pk) (m : Nat → Option Nat) (w : World) (h : FI base w fb tb e T m c) :
    Calls Try.prog 10 #[.pointer (some ⟨fb, 0, none⟩)] w fun r w' => r = .returned (.int .u64 c) ∧ w = w' := by
  have x0 := h.blk.cell 0
  simp only [List.getElem?_toArray, List.getElem?_cons_zero, List.getElem?_cons_succ] at x0
  clear h
  go_enter Try.func10, Try.ntmps10
  go_wp2_with fail
  go_ret
  exact ⟨rfl, rfl⟩

/-- The blocks of a map, beside its own. -/
def InB (tb e : Nat) (T : Nat → Option Pk) (b : Nat) : Prop := b = tb ∨ ∃ i p, i < 2 ^ e ∧ T i = some p ∧ p.b = b

/-- Behind the test of the load: room for one more; the packet goes in, the count goes up. -/
theorem FI.done {base : Nat} {w w2 : World} {fb tb e c k v : Nat} {T : Nat → Option Pk} {m : Nat → Option Nat} (h : FI base w fb tb e T m c) (hroom : 4 * (c + 1) ≤ 3 * 2 ^ e) {p : Pk} (hp : p.k = k ∧ p.v = v) (hpb : p.b ≠ fb)
    (hex : ∃ T', Arr w2 tb (2 ^ e) T' ∧ Tab Hsh (2 ^ e) T' ∧ Rep (2 ^ e) T' (upd m p.k p.v) ∧ Go.Proofs.Ytjliofloheellaa.occ T' (2 ^ e) = Go.Proofs.Ytjliofloheellaa.occ T (2 ^ e) + 1 ∧ ∀ j q, j < 2 ^ e → T' j = some q → T j = some q ∨ q = p) (hblk : Blk w2 fb #[.int .u64 c, .slice (some ⟨tb, 0, none⟩) (2 ^ e) (2 ^ e)]) {x : Int} (hx : x = ((c + 1 : Nat) : Int)) :
    ∃ T', FI base (w2.setCell ⟨fb, 0, none⟩ (.int .u64 x)) fb tb e T' (upd m k v) (c + 1) ∧ ∀ b, InB tb e T' b → InB tb e T b ∨ b = p.b := by
  subst hx
  obtain ⟨rfl, rfl⟩ := hp
  obtain ⟨T', a1, a2, a3, a4, a5⟩ := hex
  have hpk : ∀ j q, j < 2 ^ e → T' j = some q → q.b ≠ fb := fun j q hj hq => by
    rcases a5 j q hj hq with h' | rfl
    · exact h.pks j q hj h'
    · exact hpb
  refine ⟨T', ⟨?_, ?_, a2, a3, by rw [a4, h.occ], hroom, h.small, h.low, hpk⟩, fun b hb => by
    rcases hb with rfl | ⟨i, q, h1, h2, rfl⟩
    · exact Or.inl (Or.inl rfl)
    · rcases a5 i q h1 h2 with h' | rfl
      · exact Or.inl (Or.inr ⟨i, q, h1, h', rfl⟩)
      · exact Or.inr rfl⟩
  · have := hblk.set 0 (.int .u64 ((c + 1 : Nat) : Int))
    simpa using this
  · exact a1.keep ((Ch.refl (S1 fb) _).setCell _ (fun _ => show S1 fb fb from rfl) _) (fun hs => h.low.2.2 hs.symm) (fun j q hj hq hs => hpk j q hj hq hs)

set_option maxRecDepth 100000 in
set_option maxHeartbeats 2000000 in
theorem fiSet_any {base : Nat} (fb tb e c k v : Nat) (T : Nat → Option Pk) (m : Nat → Option Nat) (w : World) (h : FI base w fb tb e T m c) (he : e ≤ 10) (hc : c ≤ 102) (hbase : base ≤ w.heap.size) (hm : m k = none) :
    Calls Try.prog 6 #[.pointer (some ⟨fb, 0, none⟩), .int .u64 k, .int .u64 v] w fun r w' => r = .returned (.tuple #[]) ∧ (∃ tb' e' T', FI base w' fb tb' e' T' (upd m k v) (c + 1) ∧ e' ≤ 10 ∧ ∀ b, b < w.heap.size → InB tb' e' T' b → InB tb e T b) ∧ Ch (S2 fb tb) w w' := by
  have x0 := h.blk.cell 0
  have x1 := h.blk.cell 1
  simp only [List.getElem?_toArray, List.getElem?_cons_zero, List.getElem?_cons_succ] at x0 x1
  obtain ⟨r, hr, hcmp⟩ := load_cmp c e (by omega) (by omega)
  obtain ⟨N, hN⟩ : ∃ N, 2 ^ e = N := ⟨_, rfl⟩
  rw [hN] at x1 hr hcmp
  have hq := fun w => run_float_arith (P := Try.prog) w .quo 45 .f64 _ _ r hr
  have hci : (c : Int) ≤ 102 := by omega
  have hlow := h.low
  have hfl := h.blk.lt
  have hld := h.load
  rw [hN] at hld
  have hN0 : 0 < N := by rw [← hN]; exact Nat.two_pow_pos _
  have H := Lib.hid h
  have HN := Lib.hid hN
  have HM := Lib.hid hm
  clear h hr hN hm
  by_cases hload : 3 * N < 4 * (c + 1)
  · have hd : (FloatKind.f64.format.order r 4604930618986332160 == some .gt) = true := by rw [hcmp]; simpa using hload
    have he7 : e ≤ 7 := Nat.le_of_not_lt fun h => by
      have : 2 ^ 8 ≤ 2 ^ e := Nat.pow_le_pow_right (by omega) h
      have h2 := HN.out
      omega
    clear hcmp
    go_enter Try.func6, Try.ntmps6
    go_wp2_with fail
    go_quiet (fail)
    generalize hw1 : w.drewN nq = w1
    have hC1 : Ch S0 w w1 := by rw [← hw1]; exact ⟨rfl, rfl, rfl, Nat.le_refl _, fun _ _ _ => rfl⟩
    have hs1 := hC1.size
    have H1 := Lib.hid (H.out.keep hC1)
    have HC1 := Lib.hid hC1
    clear hw1 hC1 H x0 x1 hq
    go_wp2_with fail
    refine (rebuild_any base fb tb e c T m w1 H1.out (by omega) (by omega)).mono ?_
    rintro e' w2 ⟨rfl, ⟨tb2, T2, hF2, htb2, hT2⟩, hC2⟩
    have HT2 := Lib.hid hT2
    have HTB := Lib.hid htb2
    clear hT2 htb2
    have x1 := hF2.blk.cell 1
    have hfl2 := hF2.blk.lt
    have hsz2 := hC2.size
    have hlow2 := hF2.low
    have hpw : 2 ^ (e + 1) = 2 * N := by rw [Nat.pow_succ, HN.out]; omega
    have hpb := fun i p hi hp => (hF2.arr.pks i p hi hp).2.lt
    have htl := hF2.arr.lt
    simp only [List.getElem?_toArray, List.getElem?_cons_zero, List.getElem?_cons_succ] at x1
    obtain ⟨N2, hN2⟩ : ∃ N2, 2 ^ (e + 1) = N2 := ⟨_, rfl⟩
    have hN22 : N2 = 2 * N := hN2.symm.trans hpw
    rw [hN2] at x1
    have hF3 := hF2.keep ((Ch.refl S0 w2).alloc (.cells #[.int .u64 k, .int .u64 v] 49))
    have hS := set_any tb2 N2 (e + 1) ⟨w2.heap.size, k, v⟩ T2 m (w2.alloc (.cells #[.int .u64 k, .int .u64 v] 49)) hN2.symm (by omega) (by have := hF3.arr; rwa [hN2] at this) (by have := hF3.tab; rwa [hN2] at this) (by have := hF3.rep; rwa [hN2] at this) (by have := hF3.room; rwa [hN2] at this) ⟨by show w2.heap.size ≠ tb2; omega, Blk.new _ _ _⟩ HM.out
    have HS := Lib.hid hS
    have H2 := Lib.hid hF2
    have H3 := Lib.hid hF3
    have HN2 := Lib.hid hN2
    have HC2 : Hid (Ch (S2 fb tb) w w2) := Lib.hid ((HC1.out.mono (fun _ _ h => h.elim)).trans (hC2.mono (fun k _ hs => Or.inl hs)))
    have hroom : 4 * (c + 1) ≤ 3 * N2 := by omega
    have HRm := Lib.hid hroom
    clear hF2 hF3 hS hN2 hN22 hpw hC2 hpb HC1 H1 hroom
    go_wp2_with fail
    refine HS.out.mono ?_
    rintro e' w3 ⟨rfl, hex, hC3⟩
    have hb3 := H3.out.blk.keep hC3 (fun hs => hlow2.2.2 hs)
    have y0 := hb3.cell 0
    have z0 := hb3.free 0
    simp only [List.getElem?_toArray, List.getElem?_cons_zero, List.getElem?_cons_succ] at y0
    have hfin := fun (x : Int) (hx : x = ((c + 1 : Nat) : Int)) => H2.out.done (w2 := w3) (k := k) (v := v) (x := x) (by rw [HN2.out]; exact HRm.out) (p := ⟨w2.heap.size, k, v⟩) ⟨rfl, rfl⟩ (by show w2.heap.size ≠ fb; omega) (by rw [HN2.out]; exact hex) hb3 hx
    have HF := Lib.hid hfin
    have HC3 : Hid (Ch (S2 fb tb) w w3) := Lib.hid ((HC2.out.trans ((Ch.refl _ _).alloc _)).trans' hC3 (fun k hk hs => by have := HTB.out; cases hs; omega))
    clear hex hC3 hfin hb3
    go_wp2_with fail
    refine bodyPost_end (results_none rfl _ _ _) rfl ?_
    obtain ⟨T', hh, hin⟩ := HF.out ((c : Int) + 1) (by omega)
    refine ⟨rfl, ⟨tb2, e + 1, T', hh, by omega, fun b hb hI => ?_⟩, HC3.out.setCell _ (fun _ => Or.inl rfl) _⟩
    rcases hin b hI with h | h
    · rcases h with h | ⟨i, q, h1, h2, h3⟩
      · have := HTB.out; omega
      · obtain ⟨l, l1, l2⟩ := HT2.out i q h1 h2
        exact Or.inr ⟨l, q, l1, l2, h3⟩
    · have h : b = w2.heap.size := h
      omega
  · have hd : (FloatKind.f64.format.order r 4604930618986332160 == some .gt) = false := by rw [hcmp]; simpa using hload
    clear hcmp
    go_enter Try.func6, Try.ntmps6
    go_wp2_with fail
    go_quiet (fail)
    generalize hw1 : w.drewN nq = w1
    have hC1 : Ch S0 w w1 := by rw [← hw1]; exact ⟨rfl, rfl, rfl, Nat.le_refl _, fun _ _ _ => rfl⟩
    have hs1 := hC1.size
    have hF2 := H.out.keep hC1
    have x1 := hF2.blk.cell 1
    have hfl2 := hF2.blk.lt
    have htl := hF2.arr.lt
    simp only [List.getElem?_toArray, List.getElem?_cons_zero, List.getElem?_cons_succ] at x1
    rw [HN.out] at x1
    have hF3 := hF2.keep ((Ch.refl S0 w1).alloc (.cells #[.int .u64 k, .int .u64 v] 49))
    have hS := set_any tb N e ⟨w1.heap.size, k, v⟩ T m (w1.alloc (.cells #[.int .u64 k, .int .u64 v] 49)) HN.out.symm (by omega) (by have := hF3.arr; rwa [HN.out] at this) (by have := hF3.tab; rwa [HN.out] at this) (by have := hF3.rep; rwa [HN.out] at this) (by have := hF3.room; rwa [HN.out] at this) ⟨by show w1.heap.size ≠ tb; omega, Blk.new _ _ _⟩ HM.out
    have HS := Lib.hid hS
    have H2 := Lib.hid hF2
    have H3 := Lib.hid hF3
    have HC2 : Hid (Ch (S2 fb tb) w w1) := Lib.hid (hC1.mono (fun _ _ h => h.elim))
    have hroom : 4 * (c + 1) ≤ 3 * N := by omega
    have HRm := Lib.hid hroom
    clear hF2 hF3 hS hC1 hw1 hroom H x0 hq
    go_wp2_with fail
    refine HS.out.mono ?_
    rintro e' w3 ⟨rfl, hex, hC3⟩
    have hb3 := H3.out.blk.keep hC3 (fun hs => hlow.2.2 hs)
    have y0 := hb3.cell 0
    have z0 := hb3.free 0
    simp only [List.getElem?_toArray, List.getElem?_cons_zero, List.getElem?_cons_succ] at y0
    have hfin := fun (x : Int) (hx : x = ((c + 1 : Nat) : Int)) => H2.out.done (w2 := w3) (k := k) (v := v) (x := x) (by rw [HN.out]; exact HRm.out) (p := ⟨w1.heap.size, k, v⟩) ⟨rfl, rfl⟩ (by show w1.heap.size ≠ fb; omega) (by rw [HN.out]; exact hex) hb3 hx
    have HF := Lib.hid hfin
    have HC3 : Hid (Ch (S2 fb tb) w w3) := Lib.hid ((HC2.out.trans ((Ch.refl _ _).alloc _)).trans (hC3.mono (fun k _ hs => Or.inr hs)))
    clear hex hC3 hfin hb3
    go_wp2_with fail
    refine bodyPost_end (results_none rfl _ _ _) rfl ?_
    obtain ⟨T', hh, hin⟩ := HF.out ((c : Int) + 1) (by omega)
    refine ⟨rfl, ⟨tb, e, T', hh, by omega, fun b hb hI => ?_⟩, HC3.out.setCell _ (fun _ => Or.inl rfl) _⟩
    rcases hin b hI with h | h
    · exact h
    · have h : b = w1.heap.size := h
      omega
end Go.Proofs.Ytjliofloheellaa
