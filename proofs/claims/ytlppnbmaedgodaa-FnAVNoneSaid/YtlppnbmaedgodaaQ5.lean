/- WALKS: two answers that are the same; a slice without a true one; what FnAVNone holds together. -/
import Derived.Test.YtlppnbmaedgodaaQ4
namespace Go.Proofs.Ytlppnbmaedgodaa
open Go.RowKit
set_option linter.unusedVariables false
set_option linter.unusedSimpArgs false

set_option maxRecDepth 100000 in
set_option maxHeartbeats 8000000 in
theorem dvSame_any (m n c1 c2 d1 d2 : Nat) (A1 A2 B1 B2 : Option Addr) (es : List (Int × Int)) (bs : List Bool) (w : World) (he : es.length = n) (hb : bs.length = n) (hn : n ≤ 1000) (h1 : Rd w A1 (ec es)) (h2 : Rd w A2 (bs.map .bool)) (g1 : Rd w B1 (ec es)) (g2 : Rd w B2 (bs.map .bool)) :
    Calls Try.prog 12 #[.agg #[.int .i64 m, .slice A1 n c1, .slice A2 n c2], .agg #[.int .i64 m, .slice B1 n d1, .slice B2 n d2]] w fun r w' => r = .returned (.bool true) ∧ Ch S0 w w' := by
  obtain ⟨W2, hW2⟩ : ∃ W, W = (w.alloc (.cells #[.int .i64 m, .slice A1 n c1, .slice A2 n c2] 31)).alloc (.cells #[.int .i64 m, .slice B1 n d1, .slice B2 n d2] 31) := ⟨_, rfl⟩
  have hC2 : Ch S0 w W2 := by rw [hW2]; exact ((Ch.refl S0 w).alloc _).alloc _
  have hA : Blk W2 w.heap.size #[.int .i64 m, .slice A1 n c1, .slice A2 n c2] := by rw [hW2]; exact (Blk.new w _ _).alloc _
  have hB : Blk W2 (w.heap.size + 1) #[.int .i64 m, .slice B1 n d1, .slice B2 n d2] := by
    rw [hW2]
    have := Blk.new (w.alloc (.cells #[.int .i64 m, .slice A1 n c1, .slice A2 n c2] 31)) #[.int .i64 m, .slice B1 n d1, .slice B2 n d2] 31
    rw [World.size_alloc] at this
    exact this
  have hq := eqB_same A2 B2 n c2 d2 bs W2 hb (by omega) (h2.keep0 hC2) (g2.keep0 hC2)
  have HQ := Lib.hid hq
  have HA := Lib.hid hA
  have HB := Lib.hid hB
  have HW2 := Lib.hid hW2
  have HC2 := Lib.hid hC2
  have HE := Lib.hid he
  have H1 := Lib.hid (h1.keep0 hC2)
  have G1 := Lib.hid (g1.keep0 hC2)
  clear hq hA hB hW2 hC2 he hb h1 h2 g1 g2
  go_enter Try.func12, Try.ntmps12
  go_upto_region 1 with fail
  rw [← HW2.out]
  have a0 := HA.out.cell 0
  have a1 := HA.out.cell 1
  have a2 := HA.out.cell 2
  have b0 := HB.out.cell 0
  have b1 := HB.out.cell 1
  have b2 := HB.out.cell 2
  have hmm : ((m : Int) == (m : Int)) = true := by simp
  simp only [List.getElem?_toArray, List.getElem?_cons_zero, List.getElem?_cons_succ] at a0 a1 a2 b0 b1 b2
  go_wp2_with fail
  refine HQ.out.mono ?_
  rintro r w3 ⟨rfl, hC⟩
  have a3 := cell_to a1 hC
  have b3 := cell_to b1 hC
  have hE := eqE_same A1 B1 n c1 d1 es w3 HE.out (by omega) (H1.out.keep0 hC) (G1.out.keep0 hC)
  have HC3 := Lib.hid (HC2.out.trans hC)
  clear hC a0 a1 a2 b0 b1 b2
  go_wp2_with fail
  refine hE.mono ?_
  rintro r w4 ⟨rfl, hC⟩
  have HC4 := Lib.hid (HC3.out.trans hC)
  clear hC hE
  go_wp2_with fail
  go_ret
  exact ⟨rfl, HC4.out⟩
set_option maxRecDepth 100000 in
set_option maxHeartbeats 4000000 in
theorem index_none (A : Option Addr) (n c : Nat) (bs : List Bool) (w : World) (hb : bs.length = n) (hn : n ≤ 1000) (hf : ∀ b ∈ bs, b = false) (hA : Rd w A (bs.map .bool)) :
    Calls Try.prog 19 #[.slice A n c, .bool true] w fun r w' => r = .returned (.int .i64 (-1)) ∧ Ch S0 w w' := by
  have HL := Lib.hid hb
  have HA := Lib.hid hA
  have HF := Lib.hid hf
  clear hb hA hf
  go_enter Try.func19, Try.ntmps19
  go_wp2_with fail
  go_loopw [8] (fun vi wr => ∃ i : Nat, i ≤ n ∧ vi = .int .i64 i ∧ Ch S0 w wr) (fun vi _ => n - (intOf vi).toNat)
  case atStart => exact ⟨0, by omega, rfl, Ch.refl _ _⟩
  case round =>
    obtain ⟨i, hi, rfl, hC⟩ := hrel
    have HC := Lib.hid hC
    clear hC
    by_cases hlt : i < n
    · have hlti : (i : Int) < (n : Nat) := by omega
      have hi0 : (0 : Int) ≤ (i : Nat) := by omega
      obtain ⟨b, hx⟩ : ∃ x, bs[i]? = some x := ⟨bs[i]'(by have := HL.out; omega), by simp [HL.out, hlt]⟩
      have hbf := HF.out b (List.mem_of_getElem? hx)
      subst hbf
      have hx2 : (bs.map Value.bool)[i]? = some (.bool false) := by simp [hx]
      obtain ⟨q, o, e, c0⟩ := (HA.out.keep0 HC.out).at hx2
      subst e
      clear hx hx2
      go_wp2_with fail
      go_roundw
      case rel => exact ⟨i + 1, by omega, by go_num, HC.out⟩
      case measure => simp [intOf]; omega
    · have hin : ¬ (i : Int) < (n : Nat) := by omega
      go_wp2_with fail
      go_ret
      exact ⟨rfl, HC.out⟩
theorem cont_none (A : Option Addr) (n c : Nat) (bs : List Bool) (w : World) (hb : bs.length = n) (hn : n ≤ 1000) (hf : ∀ b ∈ bs, b = false) (hA : Rd w A (bs.map .bool)) :
    Calls Try.prog 13 #[.slice A n c, .bool true] w fun r w' => r = .returned (.bool false) ∧ Ch S0 w w' := by
  have HI := Lib.hid (index_none A n c bs w hb hn hf hA)
  clear hb hf hA
  go_enter Try.func13, Try.ntmps13
  go_wp2_with (go_at_call 19; refine HI.out.mono ?_; rintro r w1 ⟨rfl, hC⟩; have HC := Lib.hid hC; clear hC)
  go_ret
  exact ⟨rfl, HC.out⟩
/-- Those whose Keys are not among others. -/
def outP (own : List (Int × Int)) (e : Int × Int) : Bool := !own.any (fun o => decide (o.1 = e.1))
theorem out_snoc {own es : List (Int × Int)} {i : Nat} {e : Int × Int} (h : es[i]? = some e) : (es.take (i + 1)).filter (outP own) = (es.take i).filter (outP own) ++ (if outP own e then [e] else []) := by
  rw [take_one h, List.filter_append, List.filter_cons, List.filter_nil]
theorem none_facts (xs ys : List Int) (hx : 0 < xs.length) : ∃ L1 : List (Int × Int), finL [] (dvL 0 xs) = L1 ∧ L1.length = (dvL 0 xs).length ∧ (∀ e ∈ (dvL 0 ys).filter (outP (dvL 0 xs)), lget e.1 L1 = none) := by
  have hd := dv_dist 0 xs
  refine ⟨_, rfl, by simpa using len_new ord_nil hd (fun e _ => rfl), fun e he => ?_⟩
  have hp := (List.mem_filter.1 he).2
  refine ((fin_get ord_nil hd).2 e.1 (fun o ho h => ?_)).trans rfl
  unfold outP at hp
  rw [any_key.2 ⟨o, ho, h⟩] at hp
  cases hp
theorem none_out {w wA : World} {own others L1 : List (Int × Int)} {A1 A2 : Option Addr} {c1 c2 : Nat} {v : Value} (h : RunR w [⟨1, 0, own, A1, c1⟩, ⟨2, 1, others, A2, c2⟩] 2 v wA) (hL : finL [] own = L1) : ∃ g c E2 e2, v = .slice (some ⟨g, 0, none⟩) 2 c ∧ wA.cell? ⟨g, 5, none⟩ = some (.slice E2 (ansG L1 others).length e2) ∧ Rd wA E2 (hc (ansG L1 others)) := by
  obtain ⟨ds, h1, h2, h3, h4, h5⟩ := h
  obtain ⟨A, c, rfl, hR, _, _, h0, _⟩ := own_rd h2
  obtain ⟨g, rfl⟩ := h0.resolve_left (by omega)
  obtain ⟨d0, d, rfl⟩ : ∃ d0 d1, ds = [d0, d1] := by
    match ds, h1 with
    | [d0, d1], _ => exact ⟨d0, d1, rfl⟩
  have hm : d.an = ansG L1 others := by
    have e := h3
    simp only [List.map_cons, List.map_nil, runO, stepO1, stepO2, stepL1, List.cons.injEq, and_true] at e
    have e2 := congrArg Prod.snd e.2
    rw [← hL]
    exact e2
  obtain ⟨b, o, e, k0, k1, k2⟩ := rd_sd (i := 1) hR rfl
  cases e
  obtain ⟨r1, r2⟩ := h4 d (by simp)
  rw [hm] at k2 r2
  simp only [Nat.zero_add, Nat.one_mul] at k2
  exact ⟨g, c, d.A2, d.c2, rfl, k2, r2⟩
theorem hc_false {L es : List (Int × Int)} (h : ∀ e ∈ es, lget e.1 L = none) : ∀ b ∈ (ansG L es).map (fun p => p.2.isSome), b = false := fun b hb => by
  obtain ⟨p, hp, rfl⟩ := List.mem_map.1 hb
  obtain ⟨e, he, rfl⟩ := List.mem_map.1 hp
  simp only [h e he]
  rfl
theorem hc_map (an : List (Int × Option Int)) : hc an = (an.map (fun p => p.2.isSome)).map .bool := by simp [hc]
theorem none_fine {own others q : List (Int × Int)} {A1 A2 Aq : Option Addr} {c1 c2 cq : Nat} (h1 : 0 < own.length) (h2 : own.length ≤ 30) (h3 : 0 < others.length) (h3' : others.length ≤ 30) (hq : q.length = own.length) (h4 : (finL [] own).length = own.length) (hm : ∀ e ∈ others, lget e.1 (finL [] own) = none) : FineAll [[]] ([⟨1, 0, own, A1, c1⟩, ⟨2, 1, others, A2, c2⟩] ++ [⟨3, 2, q, Aq, cq⟩]) ∧ FineAll [[]] ([⟨1, 0, own, A1, c1⟩] ++ [⟨3, 1, q, Aq, cq⟩]) := by
  have f0 : Fine [[]] (⟨1, 0, own, A1, c1⟩ : St) := ⟨Nat.zero_lt_one, Or.inl rfl, h1, show own.length ≤ 100 by omega, Nat.zero_le _, fun h => (by cases h)⟩
  refine ⟨⟨f0, ⟨show 1 < 2 by decide, Or.inr (Or.inl rfl), h3, show others.length ≤ 100 by omega, show (finL [] own).length ≤ 60 by omega, fun _ => hm⟩, ⟨show 2 < 3 by decide, Or.inr (Or.inr rfl), show 0 < q.length by omega, show q.length ≤ 100 by omega, show (finL [] own).length ≤ 60 by omega, fun h => (by cases h)⟩, trivial⟩, ⟨f0, ⟨show 1 < 2 by decide, Or.inr (Or.inr rfl), show 0 < q.length by omega, show q.length ≤ 100 by omega, show (finL [] own).length ≤ 60 by omega, fun h => (by cases h)⟩, trivial⟩⟩
end Go.Proofs.Ytlppnbmaedgodaa
