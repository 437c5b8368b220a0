/- WALKS: what a tree says of entries. -/
import Derived.Test.YtlppnbmaedgodaaQ2
import Derived.Deep.RegionLaw
namespace Go.Proofs.Ytlppnbmaedgodaa
open Go.RowKit
set_option linter.unusedVariables false
set_option linter.unusedSimpArgs false

/-- Entries with the values left out. -/
def ask (es : List (Int × Int)) : List (Int × Int) := es.map fun e => (e.1, 0)
def exS (q : Nat) : List St := [⟨1, 0, [(3, 8)], some ⟨q, 0, none⟩, 1⟩, ⟨3, 1, [(3, 0), (4, 0)], some ⟨q + 1, 0, none⟩, 2⟩]
theorem ex_fine (q : Nat) : FineAll [[]] (exS q) := by
  refine ⟨⟨?_, Or.inl rfl, ?_, ?_, ?_, fun h => (by cases h)⟩, ⟨?_, Or.inr (Or.inr rfl), ?_, ?_, ?_, fun h => (by cases h)⟩, trivial⟩ <;> simp [stepL, finL, lins]
theorem ex_out (q : Nat) : runO [[]] (exS q) = [(1, [(3, none)]), (1, [(3, some 8), (4, none)])] := by
  simp [exS, runO, stepO, stepL, finL, ansI, ansG, lins, lget]
/-- What dvAsked hands back. -/
def AskR (w : World) (L es : List (Int × Int)) (n : Nat) (r : Ending) (w' : World) : Prop :=
  ∃ A1 c1 A2 c2, r = .returned (.tuple #[.agg #[.int .i64 (L.length : Nat), .slice A1 n c1, .slice A2 n c2], .bool true]) ∧ Rd w' A1 (sc (ansG L (ask es))) ∧ Rd w' A2 (hc (ansG L (ask es)))
theorem rq_ne {w w8 : World} {n : Nat} {Aq : Option Addr} {v8 : Value} {ys : List Value} {b o : Nat} (h : ∀ b o, Aq = some ⟨b, o, none⟩ → b < w.heap.size) (hO : w8.ownsRow w.heap.size 27 3 v8 n ys) (e : Aq = some ⟨b, o, none⟩) (hg : v8.ownBlock = some b) : False := by
  have h1 := (own_lt hO b hg).1
  have h2 := h b o e
  omega
theorem ask_rd {w : World} {A : Option Addr} {ss : List St} {N n : Nat} {es : List (Int × Int)} {Aq : Option Addr} {cq : Nat} (h : Rd w A (stC ss ++ [.int .i64 3, .int .i64 (N : Nat), .slice Aq n cq])) (hn : (ask es).length = n) : Rd w A (stC (ss ++ [⟨3, N, ask es, Aq, cq⟩])) := by
  have e : stC (ss ++ [⟨3, N, ask es, Aq, cq⟩]) = stC ss ++ [.int .i64 3, .int .i64 (N : Nat), .slice Aq n cq] := by rw [stC_app]; simp [stC, St.cells, hn]
  rw [e]
  exact h
theorem ask_in {w w9 : World} {ss : List St} {N : Nat} {es : List (Int × Int)} {Aq : Option Addr} {cq : Nat} (hs : ∀ s ∈ ss, StIn w s) (hc : Ch S0 w w9) (hq : Rd w9 Aq (ec (ask es))) : ∀ s ∈ ss ++ [(⟨3, N, ask es, Aq, cq⟩ : St)], StIn w9 s := fun s hs' => by
  rcases List.mem_append.1 hs' with h | h
  · exact (hs s h).keep0 hc
  · obtain rfl := List.mem_singleton.1 h
    exact hq
theorem runO_len : ∀ (ss : List St) (Ls : List (List (Int × Int))), (runO Ls ss).length = ss.length
  | [], Ls => rfl
  | s :: ss, Ls => by simp [runO, runO_len ss _]
theorem ask_out {w9 wA : World} {ss : List St} {N : Nat} {es L : List (Int × Int)} {Aq : Option Addr} {cq : Nat} {v : Value} (h : RunR w9 (ss ++ [⟨3, N, ask es, Aq, cq⟩]) (N + 1) v wA) (hl : ss.length = N) (hL : (runL [[]] ss).getD N [] = L) : ∃ g c E1 e1 E2 e2, v = .slice (some ⟨g, 0, none⟩) (N + 1) c ∧ wA.cell? ⟨g, N * 3, none⟩ = some (.int .i64 (L.length : Nat)) ∧ wA.cell? ⟨g, N * 3 + 1, none⟩ = some (.slice E1 (ansG L (ask es)).length e1) ∧ wA.cell? ⟨g, N * 3 + 2, none⟩ = some (.slice E2 (ansG L (ask es)).length e2) ∧ (Rd wA E1 (sc (ansG L (ask es))) ∧ ∀ b o, E1 = some ⟨b, o, none⟩ → w9.heap.size ≤ b) ∧ (Rd wA E2 (hc (ansG L (ask es))) ∧ ∀ b o, E2 = some ⟨b, o, none⟩ → w9.heap.size ≤ b) := by
  obtain ⟨ds, h1, h2, h3, h4, h5⟩ := h
  obtain ⟨A, c, rfl, hR, _, _, h0, _⟩ := own_rd h2
  obtain ⟨g, rfl⟩ := h0.resolve_left (by omega)
  obtain ⟨d, hd⟩ : ∃ d, ds[N]? = some d := ⟨ds[N]'(by omega), List.getElem?_eq_getElem _⟩
  have hm : (d.m, d.an) = (L.length, ansG L (ask es)) := by
    have e1 : (ds.map fun d => (d.m, d.an))[N]? = some (d.m, d.an) := by simp [hd]
    rw [h3, runO_snoc, List.getElem?_append_right (by rw [runO_len, hl]; exact Nat.le_refl _), runO_len, hl, Nat.sub_self] at e1
    rw [stepO3, hL] at e1
    exact (Option.some.inj e1).symm
  obtain ⟨b, o, e, k0, k1, k2⟩ := rd_sd hR hd
  cases e
  obtain ⟨m, an, A1, c1, A2, c2⟩ := d
  simp only [Prod.mk.injEq] at hm
  obtain ⟨rfl, rfl⟩ := hm
  simp only [Nat.zero_add] at k0 k1 k2
  obtain ⟨r1, r2⟩ := h4 _ (List.mem_of_getElem? hd)
  have h6 := h5 _ (List.mem_of_getElem? hd)
  exact ⟨g, c, A1, c1, A2, c2, rfl, k0, k1, k2, ⟨r1, fun b o e => (h6 b o (Or.inl e)).2⟩, ⟨r2, fun b o e => (h6 b o (Or.inr e)).2⟩⟩
theorem s_ne {a b c S : Nat} (h1 : a ≤ b) (h2 : c ≤ a) (h3 : S < c) (h : S1 S b) : False := by have h : b = S := h; omega
theorem bl_new (w : World) : Rd ((w.alloc (.cells #[.bool true, .bool false] 4)).drew) (some ⟨w.heap.size, 0, none⟩) ([true, false].map .bool) := (Rd.new w [.bool true, .bool false] 4).keep0 ((Ch.refl S0 _).drew)
theorem cell_to {w w' : World} {a : Addr} {x : Value} (h : w.cell? a = some x) (hc : Ch S0 w w') (hs : a.spot = none := by rfl) : w'.cell? a = some x := by
  rw [World.cell?_of_block (w := w) (hc.block _ (World.block_lt_of_cell? w _ h) (fun h => h))]; exact h
set_option maxRecDepth 100000 in
set_option maxHeartbeats 16000000 in
theorem asked_any (b0 o0 N c n c2 : Nat) (A2 : Option Addr) (ss : List St) (es : List (Int × Int)) (w : World) (hl : ss.length = N) (hN : N ≤ 50) (hle : es.length = n) (hA : Rd w (some ⟨b0, o0, none⟩) (stC ss)) (hA2 : Rd w A2 (ec es)) (hs : ∀ s ∈ ss, StIn w s) (hf : ∀ Aq cq, FineAll [[]] (ss ++ [⟨3, N, ask es, Aq, cq⟩])) (L : List (Int × Int)) (hL : (runL [[]] ss).getD N [] = L) (hn : n ≤ 1000) :
    Calls Try.prog 7 #[.slice (some ⟨b0, o0, none⟩) N c, .slice A2 n c2] w fun r w' => AskR w L es n r w' ∧ Ch S0 w w' := by
  obtain ⟨W5, hW5⟩ : ∃ W, W = ((((w.alloc (.cells #[.int .i64 0, .slice none 0 0, .slice none 0 0] 31)).alloc (.cells #[.int .i64 3, .int .i64 8] 38)).alloc (.cells #[.int .i64 3, .int .i64 8] 38)).alloc (.cells #[.int .i64 3, .int .i64 0, .int .i64 4, .int .i64 0] 38)).alloc (.cells #[.int .i64 1, .int .i64 0, .slice (some ⟨w.heap.size + 1 + 1, 0, none⟩) 1 1, .int .i64 3, .int .i64 1, .slice (some ⟨w.heap.size + 1 + 1 + 1, 0, none⟩) 2 2] 27) := ⟨_, rfl⟩
  have hC5 : Ch S0 w W5 := by rw [hW5]; exact (((((Ch.refl S0 w).alloc _).alloc _).alloc _).alloc _).alloc _
  have hB4 : Blk W5 w.heap.size #[.int .i64 0, .slice none 0 0, .slice none 0 0] := by rw [hW5]; exact ((((Blk.new w _ _).alloc _).alloc _).alloc _).alloc _
  have hB6 : Blk W5 (w.heap.size + 1) #[.int .i64 3, .int .i64 8] := by
    rw [hW5]
    have := Blk.new (w.alloc (.cells #[.int .i64 0, .slice none 0 0, .slice none 0 0] 31)) #[.int .i64 3, .int .i64 8] 38
    rw [World.size_alloc] at this
    exact ((this.alloc _).alloc _).alloc _
  have hR1 : Rd W5 (some ⟨w.heap.size + 1 + 1, 0, none⟩) [.int .i64 3, .int .i64 8] := by
    rw [hW5]
    exact ((Rd.new' [.int .i64 3, .int .i64 8] (by simp only [World.size_alloc])).keep0 ((Ch.refl S0 _).alloc _)).keep0 ((Ch.refl S0 _).alloc _)
  have hR2 : Rd W5 (some ⟨w.heap.size + 1 + 1 + 1, 0, none⟩) [.int .i64 3, .int .i64 0, .int .i64 4, .int .i64 0] := by
    rw [hW5]
    exact (Rd.new' [.int .i64 3, .int .i64 0, .int .i64 4, .int .i64 0] (by simp only [World.size_alloc])).keep0 ((Ch.refl S0 _).alloc _)
  have hR3 : Rd W5 (some ⟨w.heap.size + 1 + 1 + 1 + 1, 0, none⟩) (stC (exS (w.heap.size + 1 + 1))) := by
    rw [hW5]
    exact Rd.new' _ (by simp only [World.size_alloc])
  have hrun := run_any (some ⟨w.heap.size + 1 + 1 + 1 + 1, 0, none⟩) 2 2 (exS (w.heap.size + 1 + 1)) W5 rfl (by omega) hR3 (fun s hs => by
    simp [exS] at hs
    rcases hs with rfl | rfl
    · exact hR1
    · exact hR2) (ex_fine _)
  have HRun := Lib.hid hrun
  have HW5 := Lib.hid hW5
  have HC5 := Lib.hid hC5
  have HB4 := Lib.hid hB4
  have HB6 := Lib.hid hB6
  have HL := Lib.hid hl
  have HLe := Lib.hid hle
  have HA := Lib.hid hA
  have HA2 := Lib.hid hA2
  have HSs := Lib.hid hs
  have HF := Lib.hid hf
  have HLL := Lib.hid hL
  clear hW5 hC5 hB4 hB6 hR1 hR2 hR3 hrun hl hle hA hA2 hs hf hL
  go_enter Try.func7, Try.ntmps7
  go_wp2_with (go_at_call 8; rw [← HW5.out]; refine HRun.out.mono ?_; rintro r w6 ⟨⟨v, rfl, hR⟩, hC⟩; have HR := Lib.hid hR; have HC6 := Lib.hid hC; clear hR hC)
  obtain ⟨ds, hdl, hO, hD, hrd, hfs⟩ := HR.out
  rw [ex_out] at hD
  obtain ⟨d0, d1, rfl⟩ : ∃ d0 d1, ds = [d0, d1] := by
    match ds, hdl with
    | [d0, d1], _ => exact ⟨d0, d1, rfl⟩
  obtain ⟨m1, an1, P1, q1, P2, q2⟩ := d1
  simp only [List.map_cons, List.map_nil, List.cons.injEq, Prod.mk.injEq, and_true] at hD
  obtain ⟨_, rfl, rfl⟩ := hD
  obtain ⟨Av, cv, rfl, hRv, _, _, hA0, _⟩ := own_rd hO
  obtain ⟨g, rfl⟩ := hA0.resolve_left (by decide)
  obtain ⟨bb, oo, e, k0, k1, k2⟩ := rd_sd (i := 1) hRv rfl
  cases e
  have p1 : Rd w6 P1 (sc [(3, some 8), (4, none)]) := (hrd ⟨1, [(3, some 8), (4, none)], P1, q1, P2, q2⟩ (by simp)).1
  have p2 : Rd w6 P2 (hc [(3, some 8), (4, none)]) := (hrd ⟨1, [(3, some 8), (4, none)], P1, q1, P2, q2⟩ (by simp)).2
  obtain ⟨gp, po, rfl, s0, s1⟩ := rd_ec (i := 0) (p := (3, 8)) p1 rfl
  simp only [Nat.zero_add, Nat.one_mul, Nat.zero_mul, Nat.add_zero, List.length_cons, List.length_nil] at k0 k1 k2 s0 s1
  have hB6 := HB6.out.keep HC6.out (fun h => h)
  have t0 := hB6.cell 0
  have t1 := hB6.cell 1
  simp only [List.getElem?_toArray, List.getElem?_cons_zero, List.getElem?_cons_succ] at t0 t1
  have HP1 := Lib.hid p1
  have HP2 := Lib.hid (show Rd w6 P2 ([true, false].map .bool) from p2)
  have HRv := Lib.hid hRv
  have HB6b := Lib.hid hB6
  have HC06 := Lib.hid (HC5.out.trans HC6.out)
  have HB4b := Lib.hid (HB4.out.keep HC6.out (fun h => h))
  have hA6 : Ch S0 w6 (w6.alloc (.cells #[.bool true, .bool false] 4)) := (Ch.refl S0 w6).alloc _
  have y0 := cell_to k0 hA6
  have y1 := cell_to k1 hA6
  have y2 := cell_to k2 hA6
  have z0 := cell_to s0 hA6
  have z1 := cell_to s1 hA6
  have z2 := cell_to t0 hA6
  have z3 := cell_to t1 hA6
  clear hdl hO hrd hfs hRv p1 p2 hB6 HB6 HRun HW5 HR HC6 HC5 HB4 hA6 HP1 HRv HB6b
  go_region_law (go_simp; go_at_call 15; (with_reducible refine (eqB_same P2 (some ⟨w6.heap.size, 0, none⟩) 2 q2 2 [true, false] _ rfl (by omega) (HP2.out.keep0 (((Ch.refl S0 w6).alloc _).drew)) (bl_new w6)).mono ?_); rintro r w7 ⟨rfl, hC⟩; have hC67 := ((Ch.refl S0 w6).alloc (.cells #[.bool true, .bool false] 4)).drew.trans hC; have HC7 := Lib.hid (HC06.out.trans hC67); have HB7 := Lib.hid (HB4b.out.keep hC67 (fun h => h)); have k3 := cell_to k1 hC67; have s3 := cell_to s0 hC67; have s4 := cell_to s1 hC67; have t3 := cell_to t0 hC67; have t4 := cell_to t1 hC67; clear hC hC67)
  all_goals go_step
  all_goals clear k0 k1 k2 k3 s0 s1 s3 s4 t0 t1 t3 t4 y0 y1 y2 z0 z1 z2 z3
  all_goals go_wp2_with fail
  all_goals (
    go_loopw [8, 63] (fun vo vi wr => ∃ i : Nat, i ≤ n ∧ vi = .int .i64 i ∧ wr.ownsRow w7.heap.size 38 2 vo i (ec (ask (es.take i))) ∧ Ch S0 w7 wr) (fun _ vi _ => n - (intOf vi).toNat)
    case atStart => exact ⟨0, by omega, rfl, World.ownsRow_nil _ _ _ _, Ch.refl _ _⟩
    case round =>
      obtain ⟨i, hi, rfl, hO, hC⟩ := hrel
      have HO := Lib.hid hO
      have HC := Lib.hid hC
      have hsz := hC.size
      clear hO hC
      by_cases hlt : i < n
      · have hlti : (i : Int) < (n : Nat) := by omega
        have hi0 : (0 : Int) ≤ (i : Nat) := by omega
        obtain ⟨⟨k, v⟩, hx⟩ : ∃ x, es[i]? = some x := ⟨es[i]'(by have := HLe.out; omega), by simp [HLe.out, hlt]⟩
        obtain ⟨q, o, e, c0, c1⟩ := rd_ec (HA2.out.keep0 (HC7.out.trans HC.out)) hx
        subst e
        have HT : Hid (ec (ask (es.take (i + 1))) = ec (ask (es.take i)) ++ [.int .i64 k, .int .i64 0]) := Lib.hid (by rw [take_one hx]; simp [ask, ec])
        clear hx
        simp only at c0 c1
        have hsz2 : w7.heap.size ≤ (wr.alloc (.cells #[.int .i64 k, .int .i64 v] 38)).heap.size := by rw [World.size_alloc]; omega
        go_wp2_with (at_builtin; go_loud (refine app_own elAV rfl (.tmp 67) (.tmp 71) rfl w7.heap.size i _ (ec (ask (es.take i))) rfl (own_keep0 HO.out ((Ch.refl S0 wr).alloc _)) [.int .i64 k, .int .i64 0] rfl (by simp [Value.oneCell']) (wr.heap.size + 1) (World.size_alloc _ _) rfl (by unfold maxLen; omega) (by omega) hsz2 ?_); intro v' w4 hown4 hc4 hb4; have HOw := Lib.hid hown4; have HC4 := Lib.hid hc4; clear hown4 hc4 hb4)
        go_roundw
        case rel => exact ⟨i + 1, by omega, by go_num, by rw [HT.out]; exact HOw.out, (HC.out.alloc _).trans' HC4.out (fun j hj e => absurd (own_lt HO.out j e).1 (by omega))⟩
        case measure => simp [intOf]; omega
      · have hin : ¬ (i : Int) < (n : Nat) := by omega
        have hie : i = n := by omega
        have hO := HO.out
        rw [hie, ← HLe.out, List.take_length, HLe.out] at hO
        obtain ⟨Aq, cq, rfl, hRq, _, hgq, _, _⟩ := own_rd hO
        have HGq : Hid (∀ b o, Aq = some ⟨b, o, none⟩ → b < wr.heap.size) := Lib.hid (fun b o e => (hgq b o none e).2.2)
        rw [hie]
        have HRq := Lib.hid hRq
        have HCr := Lib.hid (HC7.out.trans HC.out)
        have HBr := Lib.hid (HB7.out.keep HC.out (fun h => h))
        obtain ⟨s9, hs9⟩ : ∃ s9 : St, s9 = ⟨3, N, ask es, Aq, cq⟩ := ⟨_, rfl⟩
        have HS9 := Lib.hid hs9
        have HFn := Lib.hid (HF.out Aq cq)
        have HAl : Hid ((ask es).length = n) := Lib.hid (by simp [ask, HLe.out])
        have HAn : Hid ((ansG L (ask es)).length = n) := Lib.hid (by simp [ask, ansG, HLe.out])
        obtain ⟨lL, hlL⟩ : ∃ l, L.length = l := ⟨_, rfl⟩
        have HlL := Lib.hid hlL
        have hN0 : (0 : Int) ≤ (N : Nat) := by omega
        have hN1 : (N : Int) < (N : Int) + 1 := by omega
        clear hO hRq hie hlt hin hi hs9 hlL HO HC hgq
        go_wp2_with (first | (go_at_call 16; refine (clone_any b0 o0 N c ss _ HL.out (by omega) (HA.out.keep0 HCr.out)).mono ?_; rintro r w8 ⟨⟨v8, rfl, hO8⟩, hC8⟩; have HO8 := Lib.hid hO8; have HC8 := Lib.hid hC8; have HRq8 := Lib.hid (HRq.out.keep0 hC8); have hs8 := hC8.size; clear hO8 hC8) | (at_builtin; go_loud (refine app_own elSt rfl (.tmp 75) (.tmp 80) rfl wr.heap.size N _ (stC ss) rfl HO8.out [.int .i64 3, .int .i64 (N : Nat), .slice Aq n cq] rfl (by simp [Value.oneCell']) w8.heap.size rfl rfl (by unfold maxLen; omega) (by omega) hs8 ?_); intro v' w9 hown4 hc4 hb4; obtain ⟨A9, c9, rfl, hR9, _, _, _, _⟩ := own_rd hown4; have HR9 := Lib.hid hR9; have HC9 := Lib.hid (HC8.out.trans' hc4 (fun j hj e => absurd (own_lt HO8.out j e).1 (Nat.not_le.2 hj))); have HRq9 := Lib.hid (HRq8.out.keep hc4 (fun b o e h => rq_ne HGq.out HO8.out e h)); clear hown4 hc4 hb4 hR9) | (go_at_call 8; refine (run_any A9 (N + 1) c9 (ss ++ [⟨3, N, ask es, Aq, cq⟩]) _ (by simp [HL.out]) (by omega) (ask_rd HR9.out HAl.out) (ask_in HSs.out (HCr.out.trans HC9.out) HRq9.out) HFn.out).mono ?_; rintro r wA ⟨⟨vA, rfl, hRr⟩, hC10⟩; obtain ⟨gA, cA, E1, e1, E2, e2, rfl, k0, k1, k2, x1, x2⟩ := ask_out hRr HL.out HLL.out; rw [HAn.out] at k1 k2; rw [HlL.out] at k0; have HE1 := Lib.hid x1; have HE2 := Lib.hid x2; have HCA := Lib.hid ((HCr.out.trans HC9.out).trans hC10); have HBA := Lib.hid ((HBr.out.keep HC9.out (fun h => h)).keep hC10 (fun h => h)); have hb1 := HBA.out.set 0 (.int .i64 lL); have hb2 := hb1.set 1 (.slice E1 n e1); have hb3 := hb2.set 2 (.slice E2 n e2); have o0' := HBA.out.cell 0; have o1 := hb1.cell 1; have o2 := hb2.cell 2; have f0 := HBA.out.free 0; have f1 := hb1.free 1; have f2 := hb2.free 2; have z0 := hb3.cell 0; have z1 := hb3.cell 1; have z2 := hb3.cell 2; simp only [List.getElem?_toArray, List.getElem?_cons_zero, List.getElem?_cons_succ, List.setIfInBounds_toArray, List.set_cons_zero, List.set_cons_succ] at o0' o1 o2 z0 z1 z2; clear hRr hC10 x1 x2 hb1 hb2 hb3))
        refine bodyPost_ret (v := .tuple #[.agg #[.int .i64 lL, .slice E1 n e1, .slice E2 n e2], .bool true]) (by simp [results, Try.results7, go_sem, z0, z1, z2]) rfl ?_
        have hCf : Ch (S1 w.heap.size) wA (((wA.setCell ⟨w.heap.size, 0, none⟩ (.int .i64 lL)).setCell ⟨w.heap.size, 1, none⟩ (.slice E1 n e1)).setCell ⟨w.heap.size, 2, none⟩ (.slice E2 n e2)) := Ch.setCell (S := S1 w.heap.size) (Ch.setCell (S := S1 w.heap.size) (Ch.setCell (S := S1 w.heap.size) (Ch.refl _ wA) ⟨w.heap.size, 0, none⟩ (fun _ => rfl) _) ⟨w.heap.size, 1, none⟩ (fun _ => rfl) _) ⟨w.heap.size, 2, none⟩ (fun _ => rfl) _
        exact ⟨⟨E1, e1, E2, e2, by rw [HlL.out], (HE1.out.1).keep hCf (fun b o e h => s_ne (HE1.out.2 b o e) HC9.out.size HBr.out.lt h), (HE2.out.1).keep hCf (fun b o e h => s_ne (HE2.out.2 b o e) HC9.out.size HBr.out.lt h)⟩, HCA.out.trans' hCf (fun j hj e => absurd hj (by rw [show j = w.heap.size from e]; exact Nat.lt_irrefl _))⟩)
end Go.Proofs.Ytlppnbmaedgodaa
