/- WALK: FnAVOver. -/
import Derived.Test.YtlppnbmaedgodaaQ4
namespace Go.Proofs.Ytlppnbmaedgodaa
open Go.RowKit
set_option linter.unusedVariables false
set_option linter.unusedSimpArgs false

theorem fine_one {s : St} {Ls : List (List (Int × Int))} (h : Fine Ls s) : FineAll Ls [s] := ⟨h, trivial⟩
/-- The steps of FnAVOver, and one more. -/
theorem over_fine {old young q : List (Int × Int)} {A1 A2 Aq : Option Addr} {c1 c2 cq : Nat} (h1 : 0 < old.length) (h2 : old.length ≤ 30) (h3 : young.length = old.length) (hq : q.length = old.length) (h4 : (finL [] old).length = old.length) (h5 : (finL (finL [] old) young).length = old.length) : FineAll [[]] ([⟨1, 0, old, A1, c1⟩, ⟨1, 1, young, A2, c2⟩] ++ [⟨3, 2, q, Aq, cq⟩]) := by
  refine ⟨⟨Nat.zero_lt_one, Or.inl rfl, h1, show old.length ≤ 100 by omega, Nat.zero_le _, fun h => (by cases h)⟩, ⟨show 1 < 2 by decide, Or.inl rfl, show 0 < young.length by omega, show young.length ≤ 100 by omega, show (finL [] old).length ≤ 60 by omega, fun h => (by cases h)⟩, ⟨show 2 < 3 by decide, Or.inr (Or.inr rfl), show 0 < q.length by omega, show q.length ≤ 100 by omega, show (finL (finL [] old) young).length ≤ 60 by omega, fun h => (by cases h)⟩, trivial⟩
theorem fine_init {ss : List St} {s : St} : ∀ {Ls : List (List (Int × Int))}, FineAll Ls (ss ++ [s]) → FineAll Ls ss := by
  induction ss with
  | nil => intro Ls _; trivial
  | cons x ss ih => intro Ls h; exact ⟨h.1, ih h.2⟩
theorem two_in {w : World} {old young : List (Int × Int)} {A1 A2 : Option Addr} {c1 c2 : Nat} (h1 : Rd w A1 (ec old)) (h2 : Rd w A2 (ec young)) : ∀ s ∈ [(⟨1, 0, old, A1, c1⟩ : St), ⟨1, 1, young, A2, c2⟩], StIn w s := fun s hs => by
  simp at hs
  rcases hs with rfl | rfl
  · exact h1
  · exact h2
theorem over_out {w wA : World} {old young : List (Int × Int)} {A1 A2 : Option Addr} {c1 c2 : Nat} {v : Value} (h : RunR w [⟨1, 0, old, A1, c1⟩, ⟨1, 1, young, A2, c2⟩] 2 v wA) : ∃ g c E1 e1, v = .slice (some ⟨g, 0, none⟩) 2 c ∧ wA.cell? ⟨g, 3, none⟩ = some (.int .i64 ((finL (finL [] old) young).length : Nat)) ∧ wA.cell? ⟨g, 4, none⟩ = some (.slice E1 ((ansI (finL [] old) young).map sE).length e1) ∧ Rd wA E1 (ec ((ansI (finL [] old) young).map sE)) := by
  obtain ⟨ds, h1, h2, h3, h4, h5⟩ := h
  obtain ⟨A, c, rfl, hR, _, _, h0, _⟩ := own_rd h2
  obtain ⟨g, rfl⟩ := h0.resolve_left (by omega)
  obtain ⟨d0, d, rfl⟩ : ∃ d0 d1, ds = [d0, d1] := by
    match ds, h1 with
    | [d0, d1], _ => exact ⟨d0, d1, rfl⟩
  have hm : (d.m, d.an) = ((finL (finL [] old) young).length, ansI (finL [] old) young) := by
    have e := h3
    simp only [List.map_cons, List.map_nil, runO, stepO1, stepL1, List.cons.injEq, and_true] at e
    exact e.2
  obtain ⟨b, o, e, k0, k1, k2⟩ := rd_sd (i := 1) hR rfl
  cases e
  obtain ⟨r1, r2⟩ := h4 d (by simp)
  obtain ⟨m, an, E1, e1, E2, e2⟩ := d
  simp only [Prod.mk.injEq] at hm
  obtain ⟨rfl, rfl⟩ := hm
  simp only [Nat.zero_add, Nat.one_mul] at k0 k1 k2
  exact ⟨g, c, E1, e1, rfl, k0, by rw [List.length_map]; exact k1, r1⟩
set_option maxRecDepth 100000 in
set_option maxHeartbeats 16000000 in
theorem over_small (A : Option Addr) (n c : Nat) (xs : List Int) (w : World) (hx : xs.length = n) (hn : n ≤ 2147483647) (hA : Rd w A (sv xs)) (h1 : is16 xs) :
    Calls Try.prog 3 #[.slice A n c] w fun r w' => r = .returned (.bool true) ∧ Ch S0 w w' := by
  have HX := Lib.hid hx
  have HA := Lib.hid hA
  have H16 := Lib.hid h1
  clear hx hA h1
  have hni : ¬ (2147483647 : Int) < (n : Nat) := by omega
  have HF := Lib.hid (dxFew_any A n c w hn)
  cases hf : few30 n
  · rw [hf] at HF
    clear hf
    go_enter Try.func3, Try.ntmps3
    go_wp2_with fail
    refine HF.out.mono ?_
    rintro r w1 ⟨rfl, e1⟩
    rw [e1]
    clear e1
    go_wp2_with fail
    go_ret
    exact ⟨rfl, Ch.refl _ _⟩
  rw [hf] at HF
  obtain ⟨h0, h30⟩ : 0 < n ∧ n ≤ 30 := by simpa [few30] using hf
  clear hf
  obtain ⟨L1, L2, f1, f2, f3, f4, f5, f6, f7⟩ := over_facts xs (by rw [HX.out]; exact h0)
  have hop := dv_pos (more := 0) (xs := xs) (by rw [HX.out]; exact h0)
  have hol := dvL_len 0 xs
  rw [HX.out] at hol
  obtain ⟨old, hold⟩ : ∃ l, dvL 0 xs = l := ⟨_, rfl⟩
  obtain ⟨young, hyoung⟩ : ∃ l, dvL 100 xs = l := ⟨_, rfl⟩
  have HE0 := Lib.hid (fun w' (hc : Ch S0 w w') => dvEntries_any A n c xs 0 w' HX.out (by omega) (by omega) (by omega) (HA.out.keep0 hc) H16.out)
  have HE1 := Lib.hid (fun w' (hc : Ch S0 w w') => dvEntries_any A n c xs 100 w' HX.out (by omega) (by omega) (by omega) (HA.out.keep0 hc) H16.out)
  rw [hold] at f1 f3 f4 f5 f6 f7 hop hol HE0
  rw [hyoung] at f2 f5 f6 f7 HE1
  obtain ⟨m, hm⟩ : ∃ m, old.length = m := ⟨_, rfl⟩
  rw [f5] at HE1
  have Hf1 := Lib.hid f1
  have Hf2 := Lib.hid f2
  have Hf3 := Lib.hid f3
  have Hf4 := Lib.hid f4
  have Hf5 := Lib.hid f5
  have Hf6 := Lib.hid f6
  have Hf7 := Lib.hid f7
  rw [hm] at hop hol HE0 HE1
  have HM := Lib.hid hm
  clear f1 f2 f3 f4 f5 f6 f7 hold hyoung hm
  go_enter Try.func3, Try.ntmps3
  go_wp2_with fail
  refine HF.out.mono ?_
  rintro r w1 ⟨rfl, e1⟩
  rw [e1]
  clear e1
  go_wp2_with fail
  refine (HE0.out _ (Ch.refl _ _)).mono ?_
  rintro r w1 ⟨⟨v, rfl, hO⟩, hC1⟩
  obtain ⟨A1, c1, rfl, hR1, _, _, _, _⟩ := own_rd hO
  have HR1 := Lib.hid hR1
  have HC1 := Lib.hid hC1
  clear hO hR1 hC1
  go_wp2_with fail
  refine (HE1.out _ HC1.out).mono ?_
  rintro r w2 ⟨⟨v, rfl, hO⟩, hC2⟩
  obtain ⟨A2, c2, rfl, hR2, _, _, _, _⟩ := own_rd hO
  have HR1 := Lib.hid (HR1.out.keep0 hC2)
  have HR2 := Lib.hid hR2
  have HC2 := Lib.hid (HC1.out.trans hC2)
  clear hO hR2 hC2 HE0 HE1
  obtain ⟨W3, hW3⟩ : ∃ W, W = w2.alloc (.cells #[.int .i64 1, .int .i64 0, .slice A1 m c1, .int .i64 1, .int .i64 1, .slice A2 m c2] 27) := ⟨_, rfl⟩
  have hC23 : Ch S0 w2 W3 := by rw [hW3]; exact (Ch.refl S0 w2).alloc _
  have HSS : Hid (Rd W3 (some ⟨w2.heap.size, 0, none⟩) (stC [⟨1, 0, old, A1, c1⟩, ⟨1, 1, young, A2, c2⟩])) := Lib.hid (by
    have e : stC [⟨1, 0, old, A1, c1⟩, ⟨1, 1, young, A2, c2⟩] = [.int .i64 1, .int .i64 0, .slice A1 m c1, .int .i64 1, .int .i64 1, .slice A2 m c2] := by simp [stC, St.cells, HM.out, Hf5.out]
    rw [e, hW3]
    exact Rd.new w2 _ 27)
  have HR1 := Lib.hid (HR1.out.keep0 hC23)
  have HR2 := Lib.hid (HR2.out.keep0 hC23)
  have HC3 := Lib.hid (HC2.out.trans hC23)
  have HW3 := Lib.hid hW3
  have HFi : Hid (∀ (q : List (Int × Int)) (Aq : Option Addr) (cq : Nat), q.length = old.length → FineAll [[]] ([⟨1, 0, old, A1, c1⟩, ⟨1, 1, young, A2, c2⟩] ++ [⟨3, 2, q, Aq, cq⟩])) := Lib.hid (fun q Aq cq hq => over_fine (by rw [HM.out]; exact hop) (by rw [HM.out]; omega) Hf5.out hq (by rw [Hf1.out]; exact Hf3.out) (by rw [Hf1.out, Hf2.out]; exact Hf4.out))
  have HAsk := Lib.hid (asked_any w2.heap.size 0 2 2 m c1 A1 [⟨1, 0, old, A1, c1⟩, ⟨1, 1, young, A2, c2⟩] old W3 rfl (by omega) HM.out HSS.out HR1.out (fun s hs => by
    simp at hs
    rcases hs with rfl | rfl
    · exact HR1.out
    · exact HR2.out) (fun Aq cq => HFi.out _ Aq cq (by simp [ask])) L2 (by simp [runL, stepL, Hf1.out, Hf2.out]) (by omega))
  clear hC23 hW3
  have HFr := Lib.hid (fine_init (HFi.out (ask old) none 0 (by simp [ask])))
  have hop1 : (2 : Int) = 2 := rfl
  clear HF hop1
  go_wp2_with (first | (go_at_call 7; rw [← HW3.out]; refine HAsk.out.mono ?_; rintro r w4 ⟨⟨P1, d1, P2, d2, rfl, hp1, hp2⟩, hC4⟩; rw [Hf4.out, HM.out]; have HP1 := Lib.hid (show Rd w4 P1 (ec young) by rw [← Hf7.out]; exact hp1); have HC4 := Lib.hid hC4; have HSS4 := Lib.hid ((HSS.out.keep0 hC4).keep0 ((Ch.refl S0 w4).alloc (.cells #[.int .i64 m, .slice P1 m d1, .slice P2 m d2] 31))); have hC5 := hC4.trans ((Ch.refl S0 w4).alloc (.cells #[.int .i64 m, .slice P1 m d1, .slice P2 m d2] 31)); have HR15 := Lib.hid (HR1.out.keep0 hC5); have HR25 := Lib.hid (HR2.out.keep0 hC5); have HC5 := Lib.hid (HC3.out.trans hC5); have HP15 := Lib.hid (HP1.out.keep0 ((Ch.refl S0 w4).alloc (.cells #[.int .i64 m, .slice P1 m d1, .slice P2 m d2] 31))); have HBa := Lib.hid (Blk.new w4 #[.int .i64 m, .slice P1 m d1, .slice P2 m d2] 31); clear hp1 hp2 hC4 hC5) | (go_at_call 8; refine (run_any (some ⟨w2.heap.size, 0, none⟩) 2 2 [⟨1, 0, old, A1, c1⟩, ⟨1, 1, young, A2, c2⟩] _ rfl (by omega) HSS4.out (two_in HR15.out HR25.out) HFr.out).mono ?_; rintro r w6 ⟨⟨v, rfl, hR⟩, hC6⟩; obtain ⟨g, c6, E1, e1, rfl, k0, k1, x1⟩ := over_out hR; rw [Hf1.out, Hf6.out, HM.out] at k1; rw [Hf1.out, Hf2.out, Hf4.out, HM.out] at k0; rw [Hf1.out, Hf6.out] at x1; have HX1 := Lib.hid x1; have HR16 := Lib.hid (HR15.out.keep0 hC6); have HR26 := Lib.hid (HR25.out.keep0 hC6); have HP16 := Lib.hid (HP15.out.keep0 hC6); have hBa := HBa.out.keep hC6 (fun h => h); have b0 := hBa.cell 0; have b1 := hBa.cell 1; simp only [List.getElem?_toArray, List.getElem?_cons_zero, List.getElem?_cons_succ] at b0 b1; have HC6 := Lib.hid (HC5.out.trans hC6); have HBa6 := Lib.hid hBa; have HK0 := Lib.hid k0; clear x1 hR hC6 hBa))
  refine (eqE_same E1 A1 m e1 c1 old _ HM.out (by omega) HX1.out HR16.out).mono ?_
  rintro r w7 ⟨rfl, hC7⟩
  have k3 := cell_to k0 hC7
  have b3 := cell_to b0 hC7
  have b4 := cell_to b1 hC7
  have HP17 := Lib.hid (HP16.out.keep0 hC7)
  have HR27 := Lib.hid (HR26.out.keep0 hC7)
  have HC7 := Lib.hid (HC6.out.trans hC7)
  clear hC7 k0 k1 b0 b1
  go_wp2_with fail
  refine (eqE_same P1 A2 m d1 c2 young _ (by rw [Hf5.out]; exact HM.out) (by omega) HP17.out HR27.out).mono ?_
  rintro r w8 ⟨rfl, hC8⟩
  have b5 := cell_to b3 hC8
  have HC8 := Lib.hid (HC7.out.trans hC8)
  clear hC8 k3 b3 b4
  go_wp2_with fail
  go_ret
  exact ⟨rfl, HC8.out⟩
end Go.Proofs.Ytlppnbmaedgodaa
