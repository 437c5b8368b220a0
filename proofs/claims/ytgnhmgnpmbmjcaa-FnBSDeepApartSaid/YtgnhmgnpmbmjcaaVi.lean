/- WALKS: BSRun, as FnBSDeepApart calls it. -/
import Derived.Test.YtgnhmgnpmbmjcaaVh
import Derived.BigQuiet
namespace Go.Proofs.Ytgnhmgnpmbmjcaa
open Go.RowKit
set_option linter.unusedVariables false
set_option linter.unusedSimpArgs false

theorem one_eq (a n len cap : Nat) (p : Value) (w : World) (hl : 0 < len) (hl2 : len ≤ 1000) (hn : n ≤ 1000) (hp : w.cell? ⟨a, n % len, none⟩ = some p) (hq : ∃ q, p = .pointer q) :
    Calls Try.prog 67 #[.slice (some ⟨a, 0, none⟩) len cap, .int .i64 n] w fun e w' => e = .returned p ∧ w' = w := by
  obtain ⟨q, rfl⟩ := hq
  have hm : n % len < len := Nat.mod_lt _ hl
  have e1 : ((n % len + len) % len) = n % len := by rw [Nat.add_mod_right, Nat.mod_mod]
  obtain ⟨i, hi⟩ : ∃ i, n % len = i := ⟨_, rfl⟩
  have m1 : (n : Int) % (len : Int) = (i : Int) := by rw [← hi]; rfl
  have m2 : ((i : Int) + (len : Int)) % (len : Int) = (i : Int) := by rw [hi] at e1; exact_mod_cast e1
  rw [hi] at hp hm
  have M2 := Lib.hid m2
  have hp' : w.cell? ⟨a, i % len, none⟩ = some (.pointer q) := by rw [Nat.mod_eq_of_lt hm]; exact hp
  have k1 : i % len < len := Nat.mod_lt _ hl
  have k2 : (i : Int) % (len : Int) < (len : Int) := by exact_mod_cast k1
  have k3 : (0 : Int) ≤ (i : Int) % (len : Int) := Int.emod_nonneg _ (by omega)
  clear hi e1 m2 hp
  go_enter Try.func67, Try.ntmps67
  go_wp2_with fail
  go_ret
  exact ⟨rfl, rfl⟩

/-- The i-th of n steps: first and last a clone; between them what is done to the one that is worked on. -/
def Stp (n on i op o b A B : Nat) : Prop :=
  (i = 0 → op = 14 ∧ o = 0 ∧ b = 0) ∧ (0 < i → i + 1 < n → o = on ∧ b = 1 - on ∧ A < 600 ∧ B < 600 ∧ (1 ≤ op ∧ op ≤ 7 ∨ 11 ≤ op ∧ op ≤ 13)) ∧ (0 < i → i + 1 = n → op = 14 ∧ o = 1 - on ∧ b = 0)

/-- A step in memory. -/
def StpAt (w : World) (sq i op o b A B : Nat) : Prop :=
  w.cell? ⟨sq, i * 5, none⟩ = some (.int .i64 op) ∧ w.cell? ⟨sq, i * 5 + 1, none⟩ = some (.int .i64 o) ∧ w.cell? ⟨sq, i * 5 + 2, none⟩ = some (.int .i64 b) ∧ w.cell? ⟨sq, i * 5 + 3, none⟩ = some (.int .u64 A) ∧ w.cell? ⟨sq, i * 5 + 4, none⟩ = some (.int .u64 B)

theorem StpAt.keep {w w' : World} {sq i op o b A B : Nat} (h : StpAt w sq i op o b A B) (hc : Ch S0 w w') : StpAt w' sq i op o b A B := by
  obtain ⟨h1, h2, h3, h4, h5⟩ := h
  have hk := World.block_lt_of_cell? w _ h1
  have e : ∀ j, w'.cell? ⟨sq, j, none⟩ = w.cell? ⟨sq, j, none⟩ := fun j => World.cell?_of_block (hc.block sq hk (fun h => h))
  exact ⟨by rw [e]; exact h1, by rw [e]; exact h2, by rw [e]; exact h3, by rw [e]; exact h4, by rw [e]; exact h5⟩

/-- What holds at the head of the loop, behind i rounds. -/
inductive At (B n on L : Nat) (g : Nat → Bool) (i : Nat) (k5 k6 : Value) (w : World) : Prop
  | first (hi : i = 0) (b0 s0 bl : Nat) (h5 : k5 = .slice (some ⟨bl, 0, none⟩) (1 : Nat) (1 : Nat)) (hr : w.ownsRow B 55 1 (.slice (some ⟨bl, 0, none⟩) (1 : Nat) (1 : Nat)) 1 [.pointer (some ⟨b0, 0, none⟩)]) (hb : BS w b0 s0 L g) (h0 : B ≤ b0 ∧ B ≤ s0 ∧ b0 ≠ bl ∧ s0 ≠ bl) (h6 : k6 = .slice none 0 0)
  | mid (hi : 0 < i) (hn : i < n) (bl cl p0 p1 pon son poth soth L' : Nat) (g' : Nat → Bool) (q bo co : Nat) (xs : List Value) (h5 : k5 = .slice (some ⟨bl, 0, none⟩) (2 : Nat) cl) (h6 : k6 = .slice (some ⟨bo, 0, none⟩) i co)
      (hr : Run w B bl cl p0 p1 pon son poth soth L' g' L g q bo co i xs) (hp : if on = 0 then p0 = pon ∧ p1 = poth else p0 = poth ∧ p1 = pon)
  | last (hi : i = n) (hr : Ran w k6 n L g)

theorem Ch.drewQ (w : World) (n : Nat) : Ch S0 w (w.drewN n) := ⟨rfl, rfl, rfl, Nat.le_refl _, fun _ _ _ => rfl⟩
theorem grew {S : Nat → Prop} {w w' : World} {o : Obj} {bl n c : Nat} (h : (w.alloc o).grownBy w' (Value.slice (some ⟨bl, 0, none⟩) n c).ownBlock) : Ch (S1 bl) w w' :=
  ((Ch.refl _ _).alloc _).trans (Ch.ofGrown h fun k hk => by simpa [Value.ownBlock, S1, eq_comm] using hk)
theorem at_of {bl n c g : Nat} {S : Nat} (h : (Value.slice (some ⟨bl, 0, none⟩) n c).ownBlock = some g ∨ S ≤ g) : g = bl ∨ S ≤ g := by
  rcases h with h | h
  · simp [Value.ownBlock] at h; exact .inl h.symm
  · exact .inr h
set_option maxRecDepth 100000 in
set_option maxHeartbeats 4000000 in
theorem bsrun_any {base : Nat} (v : Value) (L : Nat) (g : Nat → Bool) (sq n sc on : Nat) (w : World) (hV : IsB base w v L g) (hL : L ≤ 1000) (hp : 0 < (places g L).length) (hon : on ≤ 1) (hn : 2 ≤ n) (hn2 : n ≤ 100)
    (hst : ∀ i, i < n → ∃ op o b A B : Nat, StpAt w sq i op o b A B ∧ Stp n on i op o b A B) :
    Calls Try.prog 40 #[v, .slice (some ⟨sq, 0, none⟩) n sc] w fun e w' => ∃ ov, e = .returned ov ∧ Ran w' ov n L g ∧ Ch S0 w w' := by
  obtain ⟨B, hB⟩ : ∃ B, B = w.heap.size := ⟨_, rfl⟩
  have hst0 := hst 0 (by omega)
  obtain ⟨_, _, _, _, _, ⟨hq0, _⟩, _⟩ := hst0
  have hsq := World.block_lt_of_cell? w _ hq0
  have HST := Lib.hid hst
  have HV := Lib.hid hV
  have HP := Lib.hid hp
  have BB := Lib.hid hB
  obtain ⟨l0, A0, n0, c0, rfl⟩ : ∃ l A n c, v = .agg #[l, .slice A n c] := by
    obtain ⟨_, _, _, rfl, A, cap, rfl, _⟩ := hV
    exact ⟨_, _, _, _, rfl⟩
  have hcell := (Blk.new w #[l0, .slice A0 n0 c0] 25).cell
  clear hst hV hp hB hq0
  go_enter Try.func40, Try.ntmps40
  go_wp2_with fail
  refine (set64_any _ L g _ (HV.out.keep ((Ch.refl S0 _).alloc _))).mono ?_
  rintro e w1 ⟨b0, s0, rfl, hb0, hn0, hn1, hC1⟩
  have HB0 := Lib.hid hb0
  have hlt0 := hb0.lt
  have HC1 : Hid (Ch S0 w w1) := Lib.hid (((Ch.refl S0 _).alloc _).trans hC1)
  simp at hn0 hn1
  have hB := BB.out
  have hown0 : (w1.alloc (Obj.cells #[Value.pointer (some ⟨b0, 0, none⟩)] 55)).ownsRow B 55 1 (.slice (some ⟨w1.heap.size, 0, none⟩) (1 : Nat) (1 : Nat)) 1 [.pointer (some ⟨b0, 0, none⟩)] :=
    ⟨rfl, .inr ⟨w1.heap.size, 1, #[Value.pointer (some ⟨b0, 0, none⟩)], rfl, by omega, heap_alloc_new _ _, by omega, by unfold maxLen; omega, rfl, rfl⟩⟩
  have HO0 := Lib.hid hown0
  clear hcell hb0 hC1 hown0
  go_wp2_with fail
  go_loopw [5, 6, 16] (fun v5 v6 v16 wr => ∃ i : Nat, i ≤ n ∧ v16 = .int .i64 i ∧ At B n on L g i v5 v6 wr ∧ Ch S0 w wr) (fun _ _ k _ => n - (intOf k).toNat)
  case atStart => exact ⟨0, by omega, rfl, .first rfl b0 s0 w1.heap.size rfl HO0.out (HB0.out.keep ((Ch.refl S0 _).alloc _) (fun h => h) (fun h => h)) (by omega) rfl, (HC1.out.alloc _)⟩
  case round =>
    obtain ⟨i, hin, rfl, hAt, hCh⟩ := hrel

    have hszr := hCh.size
    clear HO0 HB0 HC1
    by_cases hlt : i < n
    · obtain ⟨op, o, bb, A, C, hS, hStp⟩ := HST.out i hlt
      have hS' := hS.keep hCh
      obtain ⟨s0c, s1c, s2c, s3c, s4c⟩ := hS'
      have HStp := Lib.hid hStp
      have HCh := Lib.hid hCh
      have HAt := Lib.hid hAt
      have hAt2 := hAt
      clear hS hCh hAt HAt
      rcases hAt2 with ⟨hi, b0, s0, bl, h5, hr, hb, h0, h6⟩ | ⟨hi, hn', bl, cl, p0, p1, pon, son, poth, soth, L', g', q, bo, co, xs, h5, h6, hr, hpp⟩ | ⟨hi, hr⟩
      case first =>
        subst hi h5 h6
        obtain ⟨rfl, rfl, rfl⟩ := hStp.1 rfl
        have hca : Ch S0 wr (wr.alloc (Obj.cells #[Value.int IntKind.i64 ((14 : Nat) : Int), Value.int IntKind.i64 ((0 : Nat) : Int), Value.int IntKind.i64 ((0 : Nat) : Int), Value.int IntKind.u64 (A : Nat), Value.int IntKind.u64 (C : Nat)] 48)) := (Ch.refl _ _).alloc _
        have HR := Lib.hid (own_keep hr hca)
        have HB0 := Lib.hid (hb.keep hca (fun h => h) (fun h => h))
        have HCh2 := Lib.hid (HCh.out.trans hca)
        have BS0 := Lib.hid (Blk.new wr #[Value.int IntKind.i64 ((14 : Nat) : Int), Value.int IntKind.i64 ((0 : Nat) : Int), Value.int IntKind.i64 ((0 : Nat) : Int), Value.int IntKind.u64 (A : Nat), Value.int IntKind.u64 (C : Nat)] 48)
        have hl5 := own_cell (own_keep hr hca) 0 _ rfl
        clear hca hr hb HStp hStp
        go_wp2_with fail
        generalize wr.alloc (Obj.cells #[Value.int IntKind.i64 ((14 : Nat) : Int), Value.int IntKind.i64 ((0 : Nat) : Int), Value.int IntKind.i64 ((0 : Nat) : Int), Value.int IntKind.u64 (A : Nat), Value.int IntKind.u64 (C : Nat)] 48) = w2 at *
        have y0 := BS0.out.cell 0
        have y1 := BS0.out.cell 1
        have y2 := BS0.out.cell 2
        simp only [List.getElem?_toArray, List.getElem?_cons_zero, List.getElem?_cons_succ] at y0 y1 y2
        go_quiet (first | (go_at_call 67; refine Calls.quiet_of_same (one_eq bl 0 1 1 (.pointer (some ⟨b0, 0, none⟩)) _ (by omega) (by omega) (by omega) hl5 ⟨_, rfl⟩)))
        go_wp2_with fail
        have hd := Ch.drewQ w2 nq
        have hb0lt := HB0.out.lt
        have hbllt := own_lt HR.out
        refine (clone_any b0 s0 L g _ (HB0.out.keep hd (fun h => h) (fun h => h)) (by omega)).mono ?_
        rintro e w3 ⟨cc, sc', rfl, hBc, hnc, hns, hC3⟩
        have hC23 : Ch S0 w2 w3 := hd.trans hC3
        have hw23 := hC23.size
        have hnc' : w2.heap.size ≤ cc := hnc
        have hns' : w2.heap.size ≤ sc' := hns
        have hRc := own_keep HR.out hC23
        have HB3 := Lib.hid (HB0.out.keep hC23 (fun h => h) (fun h => h))
        have HBc := Lib.hid hBc
        have HCh3 := Lib.hid (HCh2.out.trans hC23)
        clear hd hC3 hC23 hBc hnc hns y0 y1 y2 hl5 HR HB0 HCh2 BS0 s0c s1c s2c s3c s4c HCh
        have hw2r : w.heap.size ≤ w2.heap.size := by omega
        go_wp2_with (at_builtin; go_loud (refine app72_at rfl _ _ rfl B 1 (.slice (some ⟨bl, 0, none⟩) (1 : Nat) (1 : Nat)) _ rfl hRc (.pointer (some ⟨cc, 0, none⟩)) rfl rfl (by omega) (by omega) ?_); intro bl2 cl2 w4 hown4 hgr4 hat4; have HO4 := Lib.hid hown4; have HG4 := Lib.hid hgr4; have HA4 := Lib.hid hat4; clear hown4 hgr4 hat4)
        have hbl2 := at_of HA4.out
        have hG4 := grew (S := S0) HG4.out
        have hcclt := HBc.out.lt
        have hO4 : w4.ownsRow B 55 1 (Value.slice (some ⟨bl2, 0, none⟩) (2 : Nat) cl2) 2 [.pointer (some ⟨b0, 0, none⟩), .pointer (some ⟨cc, 0, none⟩)] := HO4.out
        have hw34 := hG4.size
        obtain ⟨hB0a, hB0b, hB0c, hB0d⟩ := h0
        have HB4 := Lib.hid (HB3.out.keep hG4 (show ¬ S1 bl b0 from hB0c) (show ¬ S1 bl s0 from hB0d))
        have HBc4 := Lib.hid (HBc.out.keep hG4 (show ¬ S1 bl cc from ne_big' hnc' hbllt.2) (show ¬ S1 bl sc' from ne_big' hns' hbllt.2))
        have HCh4 := Lib.hid (HCh3.out.trans' hG4 (fun k hk hs => by cases hs; have := hbllt.1; omega))
        refine (said64_q cc sc' L g _ HBc4.out (by omega)).mono ?_
        rintro e w5 ⟨v5, q5, rfl, hq5, hqn5, hC5⟩
        obtain ⟨A5, c5, hv5⟩ : ∃ A5 c5, v5 = .agg #[.int .u64 L, .slice A5 (places g L).length c5] := by obtain ⟨_, _, A, cap, h, _⟩ := hq5; exact ⟨A, cap, h⟩
        subst hv5
        have hw45 := hC5.size
        have HQ5 := Lib.hid hq5
        have HCC5 := Lib.hid hC5
        have HO4' := Lib.hid hO4
        clear hG4 hO4 hq5 hC5 HO4 HG4 HB3 HBc HCh3 HA4
        go_wp2_with (at_builtin; go_loud (refine appBits_at rfl _ _ rfl B 0 (.slice none 0 0) [] rfl (World.ownsRow_nil _ _ _ _) _ _ rfl rfl rfl (by omega) (by omega) ?_); intro b6 c6 w6 hown6 hgr6 hat6; have HO6 := Lib.hid hown6; have HG6 := Lib.hid hgr6; have HA6 := Lib.hid hat6; clear hown6 hgr6 hat6)
        go_roundw
        case rel =>
          have hbl2lt := own_lt HO4'.out
          have f1 : cc ≠ b0 := by omega
          have f2 : cc ≠ s0 := by omega
          have f3 : sc' ≠ b0 := by omega
          have f4 : sc' ≠ s0 := by omega
          have f5 : bl2 ≠ b0 := by omega
          have f6 : bl2 ≠ s0 := by omega
          have f7 : bl2 ≠ cc := by omega
          have f8 : bl2 ≠ sc' := by omega
          have f9 : q5 ≠ b0 := by omega
          have f10 : q5 ≠ s0 := by omega
          have f11 : q5 ≠ cc := by omega
          have f12 : q5 ≠ sc' := by omega
          have f13 : q5 ≠ bl2 := by omega
          have f14 : w5.heap.size ≤ b6 := HA6.out.resolve_left (by simp [Value.ownBlock])
          have f15 : B ≤ cc ∧ B ≤ sc' ∧ B ≤ w5.heap.size := by omega
          have gB := HB4.out.keep HCC5.out (fun h => h) (fun h => h)
          have gC := HBc4.out.keep HCC5.out (fun h => h) (fun h => h)
          have gO := own_keep HO4'.out HCC5.out
          rcases (show on = 0 ∨ on = 1 by omega) with rfl | rfl
          · obtain ⟨hr6, hc6⟩ := Run.start gB gC hL gO HQ5.out HP.out ⟨hB0a, hB0b⟩ ⟨⟨f1, f2, f3, f4⟩, f5, f6, f9, f10⟩ f13 f15.2.2 HO6.out HG6.out f14
            exact ⟨0 + 1, by omega, by go_num, .mid (by omega) (by omega) bl2 cl2 b0 cc b0 s0 cc sc' L g q5 b6 c6 _ rfl rfl hr6 ⟨rfl, rfl⟩, (HCh4.out.trans HCC5.out).trans hc6⟩
          · obtain ⟨hr6, hc6⟩ := Run.start gC gB hL gO HQ5.out HP.out ⟨f15.1, f15.2.1⟩ ⟨⟨Ne.symm f1, Ne.symm f3, Ne.symm f2, Ne.symm f4⟩, f7, f8, f11, f12⟩ f13 f15.2.2 HO6.out HG6.out f14
            exact ⟨0 + 1, by omega, by go_num, .mid (by omega) (by omega) bl2 cl2 b0 cc cc sc' b0 s0 L g q5 b6 c6 _ rfl rfl hr6 ⟨rfl, rfl⟩, (HCh4.out.trans HCC5.out).trans hc6⟩
        case measure => simp [intOf]; omega
      case mid =>
        subst h5 h6
        obtain ⟨ot, hot⟩ : ∃ ot, ot = 1 - on := ⟨_, rfl⟩
        by_cases hlast : i + 1 = n
        · obtain ⟨rfl, hoo, hbb⟩ := hStp.2.2 hi hlast
          rw [← hot] at hoo
          have hoo2 := hoo.symm
          subst hoo2
          subst hbb

          have hca : Ch S0 wr (wr.alloc (Obj.cells #[Value.int IntKind.i64 (((14 : Nat) : Int) : Int), Value.int IntKind.i64 (ot : Int), Value.int IntKind.i64 (((0 : Nat) : Int) : Int), Value.int IntKind.u64 (A : Nat), Value.int IntKind.u64 (C : Nat)] 48)) := (Ch.refl _ _).alloc _
          have HRun := Lib.hid (hr.keep hca)
          have HCh2 := Lib.hid (HCh.out.trans hca)
          have BS0 := Lib.hid (Blk.new wr #[Value.int IntKind.i64 (((14 : Nat) : Int) : Int), Value.int IntKind.i64 (ot : Int), Value.int IntKind.i64 (((0 : Nat) : Int) : Int), Value.int IntKind.u64 (A : Nat), Value.int IntKind.u64 (C : Nat)] 48)
          have hlr := own_keep hr.lrow hca
          have cl0 := own_cell hlr 0 _ rfl
          have cl1 := own_cell hlr 1 _ rfl
          have hxo : (wr.alloc (Obj.cells #[Value.int IntKind.i64 (((14 : Nat) : Int) : Int), Value.int IntKind.i64 (ot : Int), Value.int IntKind.i64 (((0 : Nat) : Int) : Int), Value.int IntKind.u64 (A : Nat), Value.int IntKind.u64 (C : Nat)] 48)).cell? ⟨bl, on % 2, none⟩ = some (.pointer (some ⟨pon, 0, none⟩)) := by
            rcases (show on = 0 ∨ on = 1 by omega) with rfl | rfl
            · obtain ⟨rfl, rfl⟩ := hpp; exact cl0
            · obtain ⟨rfl, rfl⟩ := hpp; exact cl1
          have hyo : (wr.alloc (Obj.cells #[Value.int IntKind.i64 (((14 : Nat) : Int) : Int), Value.int IntKind.i64 (ot : Int), Value.int IntKind.i64 (((0 : Nat) : Int) : Int), Value.int IntKind.u64 (A : Nat), Value.int IntKind.u64 (C : Nat)] 48)).cell? ⟨bl, ot % 2, none⟩ = some (.pointer (some ⟨poth, 0, none⟩)) := by
            rcases (show on = 0 ∨ on = 1 by omega) with rfl | rfl
            · subst hot; obtain ⟨rfl, rfl⟩ := hpp; exact cl1
            · subst hot; obtain ⟨rfl, rfl⟩ := hpp; exact cl0
          have HPP := Lib.hid hpp
          have hot1 : ot ≤ 1000 := by omega
          have HOT := Lib.hid hot
          clear hot
          clear hca hr hlr hpp HStp hStp
          go_wp2_with fail
          generalize wr.alloc (Obj.cells #[Value.int IntKind.i64 (((14 : Nat) : Int) : Int), Value.int IntKind.i64 (ot : Int), Value.int IntKind.i64 (((0 : Nat) : Int) : Int), Value.int IntKind.u64 (A : Nat), Value.int IntKind.u64 (C : Nat)] 48) = w2 at *
          have hszw2 := HCh2.out.size
          have y0 := BS0.out.cell 0
          have y1 := BS0.out.cell 1
          have y2 := BS0.out.cell 2
          have y3 := BS0.out.cell 3
          have y4 := BS0.out.cell 4
          simp only [List.getElem?_toArray, List.getElem?_cons_zero, List.getElem?_cons_succ] at y0 y1 y2 y3 y4

          have hzo : w2.cell? ⟨bl, 0 % 2, none⟩ = some (.pointer (some ⟨p0, 0, none⟩)) := cl0
          have Cx := fun n => Calls.quiet_of_same (n := n) (one_eq bl ot 2 cl (.pointer (some ⟨poth, 0, none⟩)) (w2.drewN n) (by decide) (by decide) hot1 hyo ⟨_, rfl⟩)
          have Cy := fun n => Calls.quiet_of_same (n := n) (one_eq bl 0 2 cl (.pointer (some ⟨p0, 0, none⟩)) (w2.drewN n) (by decide) (by decide) (by decide) hzo ⟨_, rfl⟩)
          have CX := Lib.hid Cx
          have CY := Lib.hid Cy
          clear Cx Cy
          go_quiet (first | (go_at_call 67; with_reducible exact CX.out _) | (go_at_call 67; exact CY.out _))
          clear CX CY
          go_wp2_with fail
          have hd := Ch.drewQ w2 nq
          have hR2 := HRun.out.keep hd
          refine (clone_any poth soth L g _ hR2.oth (by omega)).mono ?_
          rintro e w3 ⟨cc, sc', rfl, hBc, hnc, hns, hC3⟩
          have hR3 := hR2.keep hC3
          have HR3 := Lib.hid hR3
          have hRc := hR3.lrow
          have HBc := Lib.hid hBc
          have HCh3 := Lib.hid ((HCh2.out.trans hd).trans hC3)
          have hs3 := HCh3.out.size
          have hbllt := own_lt hR3.lrow
          have hblq := own_lt hR2.lrow
          have hnc' : bl < cc := Nat.lt_of_lt_of_le hblq.2 hnc
          have hns' : bl < sc' := Nat.lt_of_lt_of_le hblq.2 hns
          clear hd hC3 hBc hnc hns y0 y1 y2 y3 y4 hxo hyo hzo HRun HCh2 BS0 cl0 cl1 s0c s1c s2c s3c s4c HCh hR2 hR3
          go_wp2_with (at_builtin; go_loud (refine app72_at rfl _ _ rfl B 2 (.slice (some ⟨bl, 0, none⟩) (2 : Nat) cl) _ rfl hRc (.pointer (some ⟨cc, 0, none⟩)) rfl rfl (by omega) (by omega) ?_); intro bl2 cl2 w4 hown4 hgr4 hat4; have HG4 := Lib.hid hgr4; clear hown4 hgr4 hat4)
          have hG4 := grew (S := S0) HG4.out
          have hBc4 := HBc.out.keep hG4 (show ¬ S1 bl cc from Ne.symm (Nat.ne_of_lt hnc')) (show ¬ S1 bl sc' from Ne.symm (Nat.ne_of_lt hns'))
          have hs4 := hG4.size
          refine (said64_q cc sc' L g _ hBc4 (by omega)).mono ?_
          rintro e w5 ⟨v5, q5, rfl, hq5, hqn5, hC5⟩
          obtain ⟨A5, c5, hv5⟩ : ∃ A5 c5, v5 = .agg #[.int .u64 L, .slice A5 (places g L).length c5] := by obtain ⟨_, _, A, cap, h, _⟩ := hq5; exact ⟨A, cap, h⟩
          subst hv5
          have hs5 := hC5.size
          have hG5 := hG4.trans (hC5.mono (fun _ _ h => h.elim))
          have HG5 := Lib.hid hG5
          have HQ5 := Lib.hid hq5
          have ho5 := own_keepS HR3.out.orow hG5 (Ne.symm HR3.out.ne2.2.2.1)
          have hqn : w3.heap.size ≤ q5 := Nat.le_trans hs4 hqn5
          clear hG4 hG5 HG4 hBc4 hq5 hC5 hRc HBc
          go_wp2_with (at_builtin; go_loud (refine appBits_at rfl _ _ rfl B i (.slice (some ⟨bo, 0, none⟩) i co) xs rfl ho5 _ _ rfl rfl rfl (by omega) (by omega) ?_); intro b6 c6 w6 hown6 hgr6 hat6; have HO6 := Lib.hid hown6; have HG6 := Lib.hid hgr6; clear hown6 hgr6 hat6)
          go_roundw
          case rel =>
            obtain ⟨hr6, hc6⟩ := HR3.out.last (by omega) HG5.out HQ5.out hqn HO6.out HG6.out
            exact ⟨i + 1, by omega, by go_num, .last hlast (hlast ▸ hr6), HCh3.out.trans' hc6 (fun k hk hs => by have hs' : B ≤ k := hs; omega)⟩
          case measure => simp [intOf]; omega
        · obtain ⟨rfl, hbb, hA6, hC6, hop⟩ := hStp.2.1 hi (by omega)
          rw [← hot] at hbb
          have hbb2 := hbb.symm
          subst hbb2
          have hca : Ch S0 wr (wr.alloc (Obj.cells #[Value.int IntKind.i64 (op : Int), Value.int IntKind.i64 (o : Int), Value.int IntKind.i64 (ot : Int), Value.int IntKind.u64 (A : Nat), Value.int IntKind.u64 (C : Nat)] 48)) := (Ch.refl _ _).alloc _
          have HRun := Lib.hid (hr.keep hca)
          have HCh2 := Lib.hid (HCh.out.trans hca)
          have BS0 := Lib.hid (Blk.new wr #[Value.int IntKind.i64 (op : Int), Value.int IntKind.i64 (o : Int), Value.int IntKind.i64 (ot : Int), Value.int IntKind.u64 (A : Nat), Value.int IntKind.u64 (C : Nat)] 48)
          have hlr := own_keep hr.lrow hca
          have cl0 := own_cell hlr 0 _ rfl
          have cl1 := own_cell hlr 1 _ rfl
          have hxo : (wr.alloc (Obj.cells #[Value.int IntKind.i64 (op : Int), Value.int IntKind.i64 (o : Int), Value.int IntKind.i64 (ot : Int), Value.int IntKind.u64 (A : Nat), Value.int IntKind.u64 (C : Nat)] 48)).cell? ⟨bl, o % 2, none⟩ = some (.pointer (some ⟨pon, 0, none⟩)) := by
            rcases (show o = 0 ∨ o = 1 by omega) with rfl | rfl
            · obtain ⟨rfl, rfl⟩ := hpp; exact cl0
            · obtain ⟨rfl, rfl⟩ := hpp; exact cl1
          have hyo : (wr.alloc (Obj.cells #[Value.int IntKind.i64 (op : Int), Value.int IntKind.i64 (o : Int), Value.int IntKind.i64 (ot : Int), Value.int IntKind.u64 (A : Nat), Value.int IntKind.u64 (C : Nat)] 48)).cell? ⟨bl, ot % 2, none⟩ = some (.pointer (some ⟨poth, 0, none⟩)) := by
            rcases (show o = 0 ∨ o = 1 by omega) with rfl | rfl
            · subst hot; obtain ⟨rfl, rfl⟩ := hpp; exact cl1
            · subst hot; obtain ⟨rfl, rfl⟩ := hpp; exact cl0
          have HPP := Lib.hid hpp
          have hot1 : ot ≤ 1000 := by omega
          have HOT := Lib.hid hot
          clear hot
          clear hca hr hlr hpp HStp hStp
          go_wp2_with fail
          generalize wr.alloc (Obj.cells #[Value.int IntKind.i64 (op : Int), Value.int IntKind.i64 (o : Int), Value.int IntKind.i64 (ot : Int), Value.int IntKind.u64 (A : Nat), Value.int IntKind.u64 (C : Nat)] 48) = w2 at *
          have hszw2 := HCh2.out.size
          have y0 := BS0.out.cell 0
          have y1 := BS0.out.cell 1
          have y2 := BS0.out.cell 2
          have y3 := BS0.out.cell 3
          have y4 := BS0.out.cell 4
          simp only [List.getElem?_toArray, List.getElem?_cons_zero, List.getElem?_cons_succ] at y0 y1 y2 y3 y4

          have ho1 : o ≤ 1000 := by omega
          have Cx := fun n => Calls.quiet_of_same (n := n) (one_eq bl o 2 cl (.pointer (some ⟨pon, 0, none⟩)) (w2.drewN n) (by decide) (by decide) ho1 hxo ⟨_, rfl⟩)
          have Cy := fun n => Calls.quiet_of_same (n := n) (one_eq bl ot 2 cl (.pointer (some ⟨poth, 0, none⟩)) (w2.drewN n) (by decide) (by decide) hot1 hyo ⟨_, rfl⟩)
          have CX := Lib.hid Cx
          have CY := Lib.hid Cy
          clear Cx Cy
          go_quiet (first | (go_at_call 67; with_reducible exact CX.out _) | (go_at_call 67; with_reducible exact CY.out _))
          clear CX CY
          rcases (show op = 1 ∨ op = 2 ∨ op = 3 ∨ op = 4 ∨ op = 5 ∨ op = 6 ∨ op = 7 ∨ op = 11 ∨ op = 12 ∨ op = 13 by omega) with rfl | rfl | rfl | rfl | rfl | rfl | rfl | rfl | rfl | rfl
          · go_wp2_with fail
            refine (set_any pon son L' A g' _ (HRun.out.on.keep (Ch.drewQ w2 nq) (fun h => h) (fun h => h)) (by have := HRun.out.small; omega) (by omega) _ rfl).mono ?_
            rintro e w3 ⟨rfl, hO⟩
            obtain ⟨son3, hR3, hC3⟩ := (HRun.out.keep (Ch.drewQ w2 nq)).out hO (by have := HRun.out.small; omega) (show B ≤ w2.heap.size by omega)
            clear hO
            have HR3 := Lib.hid hR3
            have HCh3 := Lib.hid ((HCh2.out.trans (Ch.drewQ w2 nq)).trans' hC3 (fun k hk hs => by have hs' : B ≤ k := hs; omega))
            have hs3 := HCh3.out.size
            clear hR3 hC3 y0 y1 y2 y3 y4 hxo hyo HRun HCh2 BS0 cl0 cl1 s0c s1c s2c s3c s4c HCh
            go_wp2_with fail
            refine (said64_q pon son3 _ _ _ HR3.out.on (by have := HR3.out.small; omega)).mono ?_
            rintro e w4 ⟨v4, q4, rfl, hq4, hqn4, hC4⟩
            obtain ⟨L5, A5, k5, c5, hv5⟩ : ∃ L5 A5 k5 c5, v4 = .agg #[.int .u64 L5, .slice A5 k5 c5] := by obtain ⟨_, _, A, cap, h, _⟩ := hq4; exact ⟨_, A, _, cap, h⟩
            subst hv5
            have HR4 := Lib.hid (HR3.out.keep hC4)
            have HCh4 := Lib.hid (HCh3.out.trans hC4)
            have hs4 := hC4.size
            clear HR3 HCh3 hq4 hqn4 hC4
            have ho4 := HR4.out.orow
            go_wp2_with (at_builtin; go_loud (refine appBits_at rfl _ _ rfl B i (.slice (some ⟨bo, 0, none⟩) i co) xs rfl ho4 _ _ rfl rfl rfl (by omega) (by omega) ?_); intro b6 c6 w6 hown6 hgr6 hat6; have HO6 := Lib.hid hown6; have HG6 := Lib.hid hgr6; have HA6 := Lib.hid hat6; clear hown6 hgr6 hat6)
            go_roundw
            case rel =>
              obtain ⟨hr6, hc6⟩ := HR4.out.grow (by omega) HO6.out HG6.out HA6.out
              exact ⟨i + 1, by omega, by go_num, .mid (by omega) (by omega) bl cl p0 p1 pon son3 poth soth _ _ q b6 c6 _ rfl rfl hr6 HPP.out, HCh4.out.trans' hc6 (fun k hk hs => by have hs' : B ≤ k := hs; omega)⟩
            case measure => simp [intOf]; omega
          · go_wp2_with fail
            refine (clear_any pon son L' A g' _ (HRun.out.on.keep (Ch.drewQ w2 nq) (fun h => h) (fun h => h)) (by have := HRun.out.small; omega) _ rfl).mono ?_
            rintro e w3 ⟨rfl, hO⟩
            obtain ⟨son3, hR3, hC3⟩ := (HRun.out.keep (Ch.drewQ w2 nq)).out hO (by have := HRun.out.small; omega) (show B ≤ w2.heap.size by omega)
            clear hO
            have HR3 := Lib.hid hR3
            have HCh3 := Lib.hid ((HCh2.out.trans (Ch.drewQ w2 nq)).trans' hC3 (fun k hk hs => by have hs' : B ≤ k := hs; omega))
            have hs3 := HCh3.out.size
            clear hR3 hC3 y0 y1 y2 y3 y4 hxo hyo HRun HCh2 BS0 cl0 cl1 s0c s1c s2c s3c s4c HCh
            go_wp2_with fail
            refine (said64_q pon son3 _ _ _ HR3.out.on (by have := HR3.out.small; omega)).mono ?_
            rintro e w4 ⟨v4, q4, rfl, hq4, hqn4, hC4⟩
            obtain ⟨L5, A5, k5, c5, hv5⟩ : ∃ L5 A5 k5 c5, v4 = .agg #[.int .u64 L5, .slice A5 k5 c5] := by obtain ⟨_, _, A, cap, h, _⟩ := hq4; exact ⟨_, A, _, cap, h⟩
            subst hv5
            have HR4 := Lib.hid (HR3.out.keep hC4)
            have HCh4 := Lib.hid (HCh3.out.trans hC4)
            have hs4 := hC4.size
            clear HR3 HCh3 hq4 hqn4 hC4
            have ho4 := HR4.out.orow
            go_wp2_with (at_builtin; go_loud (refine appBits_at rfl _ _ rfl B i (.slice (some ⟨bo, 0, none⟩) i co) xs rfl ho4 _ _ rfl rfl rfl (by omega) (by omega) ?_); intro b6 c6 w6 hown6 hgr6 hat6; have HO6 := Lib.hid hown6; have HG6 := Lib.hid hgr6; have HA6 := Lib.hid hat6; clear hown6 hgr6 hat6)
            go_roundw
            case rel =>
              obtain ⟨hr6, hc6⟩ := HR4.out.grow (by omega) HO6.out HG6.out HA6.out
              exact ⟨i + 1, by omega, by go_num, .mid (by omega) (by omega) bl cl p0 p1 pon son3 poth soth _ _ q b6 c6 _ rfl rfl hr6 HPP.out, HCh4.out.trans' hc6 (fun k hk hs => by have hs' : B ≤ k := hs; omega)⟩
            case measure => simp [intOf]; omega
          · go_wp2_with fail
            refine (flip_any pon son L' A g' _ (HRun.out.on.keep (Ch.drewQ w2 nq) (fun h => h) (fun h => h)) (by have := HRun.out.small; omega) (by omega) _ rfl).mono ?_
            rintro e w3 ⟨rfl, hO⟩
            obtain ⟨son3, hR3, hC3⟩ := (HRun.out.keep (Ch.drewQ w2 nq)).out hO (by have := HRun.out.small; omega) (show B ≤ w2.heap.size by omega)
            clear hO
            have HR3 := Lib.hid hR3
            have HCh3 := Lib.hid ((HCh2.out.trans (Ch.drewQ w2 nq)).trans' hC3 (fun k hk hs => by have hs' : B ≤ k := hs; omega))
            have hs3 := HCh3.out.size
            clear hR3 hC3 y0 y1 y2 y3 y4 hxo hyo HRun HCh2 BS0 cl0 cl1 s0c s1c s2c s3c s4c HCh
            go_wp2_with fail
            refine (said64_q pon son3 _ _ _ HR3.out.on (by have := HR3.out.small; omega)).mono ?_
            rintro e w4 ⟨v4, q4, rfl, hq4, hqn4, hC4⟩
            obtain ⟨L5, A5, k5, c5, hv5⟩ : ∃ L5 A5 k5 c5, v4 = .agg #[.int .u64 L5, .slice A5 k5 c5] := by obtain ⟨_, _, A, cap, h, _⟩ := hq4; exact ⟨_, A, _, cap, h⟩
            subst hv5
            have HR4 := Lib.hid (HR3.out.keep hC4)
            have HCh4 := Lib.hid (HCh3.out.trans hC4)
            have hs4 := hC4.size
            clear HR3 HCh3 hq4 hqn4 hC4
            have ho4 := HR4.out.orow
            go_wp2_with (at_builtin; go_loud (refine appBits_at rfl _ _ rfl B i (.slice (some ⟨bo, 0, none⟩) i co) xs rfl ho4 _ _ rfl rfl rfl (by omega) (by omega) ?_); intro b6 c6 w6 hown6 hgr6 hat6; have HO6 := Lib.hid hown6; have HG6 := Lib.hid hgr6; have HA6 := Lib.hid hat6; clear hown6 hgr6 hat6)
            go_roundw
            case rel =>
              obtain ⟨hr6, hc6⟩ := HR4.out.grow (by omega) HO6.out HG6.out HA6.out
              exact ⟨i + 1, by omega, by go_num, .mid (by omega) (by omega) bl cl p0 p1 pon son3 poth soth _ _ q b6 c6 _ rfl rfl hr6 HPP.out, HCh4.out.trans' hc6 (fun k hk hs => by have hs' : B ≤ k := hs; omega)⟩
            case measure => simp [intOf]; omega
          · go_wp2_with fail
            by_cases hAC : A < C
            · refine (setRange_any pon son L' A C g' _ (HRun.out.on.keep (Ch.drewQ w2 nq) (fun h => h) (fun h => h)) hAC (by have := HRun.out.small; omega) (by omega) _ _ rfl rfl).mono ?_
              rintro e w3 ⟨rfl, hO⟩
              obtain ⟨son3, hR3, hC3⟩ := (HRun.out.keep (Ch.drewQ w2 nq)).out hO (by have := HRun.out.small; omega) (show B ≤ w2.heap.size by omega)
              clear hO
              have HR3 := Lib.hid hR3
              have HCh3 := Lib.hid ((HCh2.out.trans (Ch.drewQ w2 nq)).trans' hC3 (fun k hk hs => by have hs' : B ≤ k := hs; omega))
              have hs3 := HCh3.out.size
              clear hR3 hC3 y0 y1 y2 y3 y4 hxo hyo HRun HCh2 BS0 cl0 cl1 s0c s1c s2c s3c s4c HCh
              go_wp2_with fail
              refine (said64_q pon son3 _ _ _ HR3.out.on (by have := HR3.out.small; omega)).mono ?_
              rintro e w4 ⟨v4, q4, rfl, hq4, hqn4, hC4⟩
              obtain ⟨L5, A5, k5, c5, hv5⟩ : ∃ L5 A5 k5 c5, v4 = .agg #[.int .u64 L5, .slice A5 k5 c5] := by obtain ⟨_, _, A, cap, h, _⟩ := hq4; exact ⟨_, A, _, cap, h⟩
              subst hv5
              have HR4 := Lib.hid (HR3.out.keep hC4)
              have HCh4 := Lib.hid (HCh3.out.trans hC4)
              have hs4 := hC4.size
              clear HR3 HCh3 hq4 hqn4 hC4
              have ho4 := HR4.out.orow
              go_wp2_with (at_builtin; go_loud (refine appBits_at rfl _ _ rfl B i (.slice (some ⟨bo, 0, none⟩) i co) xs rfl ho4 _ _ rfl rfl rfl (by omega) (by omega) ?_); intro b6 c6 w6 hown6 hgr6 hat6; have HO6 := Lib.hid hown6; have HG6 := Lib.hid hgr6; have HA6 := Lib.hid hat6; clear hown6 hgr6 hat6)
              go_roundw
              case rel =>
                obtain ⟨hr6, hc6⟩ := HR4.out.grow (by omega) HO6.out HG6.out HA6.out
                exact ⟨i + 1, by omega, by go_num, .mid (by omega) (by omega) bl cl p0 p1 pon son3 poth soth _ _ q b6 c6 _ rfl rfl hr6 HPP.out, HCh4.out.trans' hc6 (fun k hk hs => by have hs' : B ≤ k := hs; omega)⟩
              case measure => simp [intOf]; omega
            · refine (setRange_no pon A C _ (by omega)).mono ?_
              rintro e w3 ⟨rfl, rfl⟩
              obtain ⟨son3, hR3, hC3⟩ : ∃ son3, Run (w2.drewN nq) B bl cl p0 p1 pon son3 poth soth L' g' L g q bo co i xs ∧ Ch (fun k => B ≤ k) (w2.drewN nq) (w2.drewN nq) := ⟨son, HRun.out.keep (Ch.drewQ w2 nq), Ch.refl _ _⟩
              have HR3 := Lib.hid hR3
              have HCh3 := Lib.hid ((HCh2.out.trans (Ch.drewQ w2 nq)).trans' hC3 (fun k hk hs => by have hs' : B ≤ k := hs; omega))
              have hs3 := HCh3.out.size
              clear hR3 hC3 y0 y1 y2 y3 y4 hxo hyo HRun HCh2 BS0 cl0 cl1 s0c s1c s2c s3c s4c HCh
              go_wp2_with fail
              refine (said64_q pon son3 _ _ _ HR3.out.on (by have := HR3.out.small; omega)).mono ?_
              rintro e w4 ⟨v4, q4, rfl, hq4, hqn4, hC4⟩
              obtain ⟨L5, A5, k5, c5, hv5⟩ : ∃ L5 A5 k5 c5, v4 = .agg #[.int .u64 L5, .slice A5 k5 c5] := by obtain ⟨_, _, A, cap, h, _⟩ := hq4; exact ⟨_, A, _, cap, h⟩
              subst hv5
              have HR4 := Lib.hid (HR3.out.keep hC4)
              have HCh4 := Lib.hid (HCh3.out.trans hC4)
              have hs4 := hC4.size
              clear HR3 HCh3 hq4 hqn4 hC4
              have ho4 := HR4.out.orow
              go_wp2_with (at_builtin; go_loud (refine appBits_at rfl _ _ rfl B i (.slice (some ⟨bo, 0, none⟩) i co) xs rfl ho4 _ _ rfl rfl rfl (by omega) (by omega) ?_); intro b6 c6 w6 hown6 hgr6 hat6; have HO6 := Lib.hid hown6; have HG6 := Lib.hid hgr6; have HA6 := Lib.hid hat6; clear hown6 hgr6 hat6)
              go_roundw
              case rel =>
                obtain ⟨hr6, hc6⟩ := HR4.out.grow (by omega) HO6.out HG6.out HA6.out
                exact ⟨i + 1, by omega, by go_num, .mid (by omega) (by omega) bl cl p0 p1 pon son3 poth soth _ _ q b6 c6 _ rfl rfl hr6 HPP.out, HCh4.out.trans' hc6 (fun k hk hs => by have hs' : B ≤ k := hs; omega)⟩
              case measure => simp [intOf]; omega
          · go_wp2_with fail
            by_cases hAC : A < C
            · refine (flipRange_any pon son L' A C g' _ (HRun.out.on.keep (Ch.drewQ w2 nq) (fun h => h) (fun h => h)) hAC (by have := HRun.out.small; omega) (by omega) _ _ rfl rfl).mono ?_
              rintro e w3 ⟨rfl, hO⟩
              obtain ⟨son3, hR3, hC3⟩ := (HRun.out.keep (Ch.drewQ w2 nq)).out hO (by have := HRun.out.small; omega) (show B ≤ w2.heap.size by omega)
              clear hO
              have HR3 := Lib.hid hR3
              have HCh3 := Lib.hid ((HCh2.out.trans (Ch.drewQ w2 nq)).trans' hC3 (fun k hk hs => by have hs' : B ≤ k := hs; omega))
              have hs3 := HCh3.out.size
              clear hR3 hC3 y0 y1 y2 y3 y4 hxo hyo HRun HCh2 BS0 cl0 cl1 s0c s1c s2c s3c s4c HCh
              go_wp2_with fail
              refine (said64_q pon son3 _ _ _ HR3.out.on (by have := HR3.out.small; omega)).mono ?_
              rintro e w4 ⟨v4, q4, rfl, hq4, hqn4, hC4⟩
              obtain ⟨L5, A5, k5, c5, hv5⟩ : ∃ L5 A5 k5 c5, v4 = .agg #[.int .u64 L5, .slice A5 k5 c5] := by obtain ⟨_, _, A, cap, h, _⟩ := hq4; exact ⟨_, A, _, cap, h⟩
              subst hv5
              have HR4 := Lib.hid (HR3.out.keep hC4)
              have HCh4 := Lib.hid (HCh3.out.trans hC4)
              have hs4 := hC4.size
              clear HR3 HCh3 hq4 hqn4 hC4
              have ho4 := HR4.out.orow
              go_wp2_with (at_builtin; go_loud (refine appBits_at rfl _ _ rfl B i (.slice (some ⟨bo, 0, none⟩) i co) xs rfl ho4 _ _ rfl rfl rfl (by omega) (by omega) ?_); intro b6 c6 w6 hown6 hgr6 hat6; have HO6 := Lib.hid hown6; have HG6 := Lib.hid hgr6; have HA6 := Lib.hid hat6; clear hown6 hgr6 hat6)
              go_roundw
              case rel =>
                obtain ⟨hr6, hc6⟩ := HR4.out.grow (by omega) HO6.out HG6.out HA6.out
                exact ⟨i + 1, by omega, by go_num, .mid (by omega) (by omega) bl cl p0 p1 pon son3 poth soth _ _ q b6 c6 _ rfl rfl hr6 HPP.out, HCh4.out.trans' hc6 (fun k hk hs => by have hs' : B ≤ k := hs; omega)⟩
              case measure => simp [intOf]; omega
            · refine (flipRange_no pon A C _ (by omega)).mono ?_
              rintro e w3 ⟨rfl, rfl⟩
              obtain ⟨son3, hR3, hC3⟩ : ∃ son3, Run (w2.drewN nq) B bl cl p0 p1 pon son3 poth soth L' g' L g q bo co i xs ∧ Ch (fun k => B ≤ k) (w2.drewN nq) (w2.drewN nq) := ⟨son, HRun.out.keep (Ch.drewQ w2 nq), Ch.refl _ _⟩
              have HR3 := Lib.hid hR3
              have HCh3 := Lib.hid ((HCh2.out.trans (Ch.drewQ w2 nq)).trans' hC3 (fun k hk hs => by have hs' : B ≤ k := hs; omega))
              have hs3 := HCh3.out.size
              clear hR3 hC3 y0 y1 y2 y3 y4 hxo hyo HRun HCh2 BS0 cl0 cl1 s0c s1c s2c s3c s4c HCh
              go_wp2_with fail
              refine (said64_q pon son3 _ _ _ HR3.out.on (by have := HR3.out.small; omega)).mono ?_
              rintro e w4 ⟨v4, q4, rfl, hq4, hqn4, hC4⟩
              obtain ⟨L5, A5, k5, c5, hv5⟩ : ∃ L5 A5 k5 c5, v4 = .agg #[.int .u64 L5, .slice A5 k5 c5] := by obtain ⟨_, _, A, cap, h, _⟩ := hq4; exact ⟨_, A, _, cap, h⟩
              subst hv5
              have HR4 := Lib.hid (HR3.out.keep hC4)
              have HCh4 := Lib.hid (HCh3.out.trans hC4)
              have hs4 := hC4.size
              clear HR3 HCh3 hq4 hqn4 hC4
              have ho4 := HR4.out.orow
              go_wp2_with (at_builtin; go_loud (refine appBits_at rfl _ _ rfl B i (.slice (some ⟨bo, 0, none⟩) i co) xs rfl ho4 _ _ rfl rfl rfl (by omega) (by omega) ?_); intro b6 c6 w6 hown6 hgr6 hat6; have HO6 := Lib.hid hown6; have HG6 := Lib.hid hgr6; have HA6 := Lib.hid hat6; clear hown6 hgr6 hat6)
              go_roundw
              case rel =>
                obtain ⟨hr6, hc6⟩ := HR4.out.grow (by omega) HO6.out HG6.out HA6.out
                exact ⟨i + 1, by omega, by go_num, .mid (by omega) (by omega) bl cl p0 p1 pon son3 poth soth _ _ q b6 c6 _ rfl rfl hr6 HPP.out, HCh4.out.trans' hc6 (fun k hk hs => by have hs' : B ≤ k := hs; omega)⟩
              case measure => simp [intOf]; omega
          · go_wp2_with fail
            refine (clearAll_any pon son L' g' _ (HRun.out.on.keep (Ch.drewQ w2 nq) (fun h => h) (fun h => h)) (by have := HRun.out.small; omega)).mono ?_
            rintro e w3 ⟨rfl, hO1, hO2⟩
            obtain ⟨son3, hR3, hC3⟩ := (HRun.out.keep (Ch.drewQ w2 nq)).outB hO1 hO2 (by have := HRun.out.small; omega) (show B ≤ w2.heap.size by omega)
            clear hO1 hO2
            have HR3 := Lib.hid hR3
            have HCh3 := Lib.hid ((HCh2.out.trans (Ch.drewQ w2 nq)).trans' hC3 (fun k hk hs => by have hs' : B ≤ k := hs; omega))
            have hs3 := HCh3.out.size
            clear hR3 hC3 y0 y1 y2 y3 y4 hxo hyo HRun HCh2 BS0 cl0 cl1 s0c s1c s2c s3c s4c HCh
            go_wp2_with fail
            refine (said64_q pon son3 _ _ _ HR3.out.on (by have := HR3.out.small; omega)).mono ?_
            rintro e w4 ⟨v4, q4, rfl, hq4, hqn4, hC4⟩
            obtain ⟨L5, A5, k5, c5, hv5⟩ : ∃ L5 A5 k5 c5, v4 = .agg #[.int .u64 L5, .slice A5 k5 c5] := by obtain ⟨_, _, A, cap, h, _⟩ := hq4; exact ⟨_, A, _, cap, h⟩
            subst hv5
            have HR4 := Lib.hid (HR3.out.keep hC4)
            have HCh4 := Lib.hid (HCh3.out.trans hC4)
            have hs4 := hC4.size
            clear HR3 HCh3 hq4 hqn4 hC4
            have ho4 := HR4.out.orow
            go_wp2_with (at_builtin; go_loud (refine appBits_at rfl _ _ rfl B i (.slice (some ⟨bo, 0, none⟩) i co) xs rfl ho4 _ _ rfl rfl rfl (by omega) (by omega) ?_); intro b6 c6 w6 hown6 hgr6 hat6; have HO6 := Lib.hid hown6; have HG6 := Lib.hid hgr6; have HA6 := Lib.hid hat6; clear hown6 hgr6 hat6)
            go_roundw
            case rel =>
              obtain ⟨hr6, hc6⟩ := HR4.out.grow (by omega) HO6.out HG6.out HA6.out
              exact ⟨i + 1, by omega, by go_num, .mid (by omega) (by omega) bl cl p0 p1 pon son3 poth soth _ _ q b6 c6 _ rfl rfl hr6 HPP.out, HCh4.out.trans' hc6 (fun k hk hs => by have hs' : B ≤ k := hs; omega)⟩
            case measure => simp [intOf]; omega
          · go_wp2_with fail
            refine (setAll_any pon son L' g' _ (HRun.out.on.keep (Ch.drewQ w2 nq) (fun h => h) (fun h => h)) (by have := HRun.out.small; omega)).mono ?_
            rintro e w3 ⟨rfl, hO1, hO2⟩
            obtain ⟨son3, hR3, hC3⟩ := (HRun.out.keep (Ch.drewQ w2 nq)).outB hO1 hO2 (by have := HRun.out.small; omega) (show B ≤ w2.heap.size by omega)
            clear hO1 hO2
            have HR3 := Lib.hid hR3
            have HCh3 := Lib.hid ((HCh2.out.trans (Ch.drewQ w2 nq)).trans' hC3 (fun k hk hs => by have hs' : B ≤ k := hs; omega))
            have hs3 := HCh3.out.size
            clear hR3 hC3 y0 y1 y2 y3 y4 hxo hyo HRun HCh2 BS0 cl0 cl1 s0c s1c s2c s3c s4c HCh
            go_wp2_with fail
            refine (said64_q pon son3 _ _ _ HR3.out.on (by have := HR3.out.small; omega)).mono ?_
            rintro e w4 ⟨v4, q4, rfl, hq4, hqn4, hC4⟩
            obtain ⟨L5, A5, k5, c5, hv5⟩ : ∃ L5 A5 k5 c5, v4 = .agg #[.int .u64 L5, .slice A5 k5 c5] := by obtain ⟨_, _, A, cap, h, _⟩ := hq4; exact ⟨_, A, _, cap, h⟩
            subst hv5
            have HR4 := Lib.hid (HR3.out.keep hC4)
            have HCh4 := Lib.hid (HCh3.out.trans hC4)
            have hs4 := hC4.size
            clear HR3 HCh3 hq4 hqn4 hC4
            have ho4 := HR4.out.orow
            go_wp2_with (at_builtin; go_loud (refine appBits_at rfl _ _ rfl B i (.slice (some ⟨bo, 0, none⟩) i co) xs rfl ho4 _ _ rfl rfl rfl (by omega) (by omega) ?_); intro b6 c6 w6 hown6 hgr6 hat6; have HO6 := Lib.hid hown6; have HG6 := Lib.hid hgr6; have HA6 := Lib.hid hat6; clear hown6 hgr6 hat6)
            go_roundw
            case rel =>
              obtain ⟨hr6, hc6⟩ := HR4.out.grow (by omega) HO6.out HG6.out HA6.out
              exact ⟨i + 1, by omega, by go_num, .mid (by omega) (by omega) bl cl p0 p1 pon son3 poth soth _ _ q b6 c6 _ rfl rfl hr6 HPP.out, HCh4.out.trans' hc6 (fun k hk hs => by have hs' : B ≤ k := hs; omega)⟩
            case measure => simp [intOf]; omega
          · go_wp2_with fail
            refine (ipUnion_any pon son poth soth L' L g' g _ (HRun.out.on.keep (Ch.drewQ w2 nq) (fun h => h) (fun h => h)) (HRun.out.oth.keep (Ch.drewQ w2 nq) (fun h => h) (fun h => h)) (by have := HRun.out.small; omega) (by omega) (Ne.symm HRun.out.ne1.1.1) (Ne.symm HRun.out.ne1.1.2.2.2) (Ne.symm HRun.out.ne1.1.2.2.1) (Ne.symm HRun.out.ne1.1.2.1)).mono ?_
            rintro e w3 ⟨rfl, hO⟩
            obtain ⟨son3, hR3, hC3⟩ := (HRun.out.keep (Ch.drewQ w2 nq)).out hO (by have := HRun.out.small; omega) (show B ≤ w2.heap.size by omega)
            clear hO
            have HR3 := Lib.hid hR3
            have HCh3 := Lib.hid ((HCh2.out.trans (Ch.drewQ w2 nq)).trans' hC3 (fun k hk hs => by have hs' : B ≤ k := hs; omega))
            have hs3 := HCh3.out.size
            clear hR3 hC3 y0 y1 y2 y3 y4 hxo hyo HRun HCh2 BS0 cl0 cl1 s0c s1c s2c s3c s4c HCh
            go_wp2_with fail
            refine (said64_q pon son3 _ _ _ HR3.out.on (by have := HR3.out.small; omega)).mono ?_
            rintro e w4 ⟨v4, q4, rfl, hq4, hqn4, hC4⟩
            obtain ⟨L5, A5, k5, c5, hv5⟩ : ∃ L5 A5 k5 c5, v4 = .agg #[.int .u64 L5, .slice A5 k5 c5] := by obtain ⟨_, _, A, cap, h, _⟩ := hq4; exact ⟨_, A, _, cap, h⟩
            subst hv5
            have HR4 := Lib.hid (HR3.out.keep hC4)
            have HCh4 := Lib.hid (HCh3.out.trans hC4)
            have hs4 := hC4.size
            clear HR3 HCh3 hq4 hqn4 hC4
            have ho4 := HR4.out.orow
            go_wp2_with (at_builtin; go_loud (refine appBits_at rfl _ _ rfl B i (.slice (some ⟨bo, 0, none⟩) i co) xs rfl ho4 _ _ rfl rfl rfl (by omega) (by omega) ?_); intro b6 c6 w6 hown6 hgr6 hat6; have HO6 := Lib.hid hown6; have HG6 := Lib.hid hgr6; have HA6 := Lib.hid hat6; clear hown6 hgr6 hat6)
            go_roundw
            case rel =>
              obtain ⟨hr6, hc6⟩ := HR4.out.grow (by omega) HO6.out HG6.out HA6.out
              exact ⟨i + 1, by omega, by go_num, .mid (by omega) (by omega) bl cl p0 p1 pon son3 poth soth _ _ q b6 c6 _ rfl rfl hr6 HPP.out, HCh4.out.trans' hc6 (fun k hk hs => by have hs' : B ≤ k := hs; omega)⟩
            case measure => simp [intOf]; omega
          · go_wp2_with fail
            refine (ipDiff_any pon son poth soth L' L g' g _ (HRun.out.on.keep (Ch.drewQ w2 nq) (fun h => h) (fun h => h)) (HRun.out.oth.keep (Ch.drewQ w2 nq) (fun h => h) (fun h => h)) (by have := HRun.out.small; omega) (by omega) (Ne.symm HRun.out.ne1.1.1) (Ne.symm HRun.out.ne1.1.2.2.2) (Ne.symm HRun.out.ne1.1.2.2.1) (Ne.symm HRun.out.ne1.1.2.1)).mono ?_
            rintro e w3 ⟨rfl, hO1, hO2⟩
            obtain ⟨son3, hR3, hC3⟩ := (HRun.out.keep (Ch.drewQ w2 nq)).outB hO1 hO2 (by have := HRun.out.small; omega) (show B ≤ w2.heap.size by omega)
            clear hO1 hO2
            have HR3 := Lib.hid hR3
            have HCh3 := Lib.hid ((HCh2.out.trans (Ch.drewQ w2 nq)).trans' hC3 (fun k hk hs => by have hs' : B ≤ k := hs; omega))
            have hs3 := HCh3.out.size
            clear hR3 hC3 y0 y1 y2 y3 y4 hxo hyo HRun HCh2 BS0 cl0 cl1 s0c s1c s2c s3c s4c HCh
            go_wp2_with fail
            refine (said64_q pon son3 _ _ _ HR3.out.on (by have := HR3.out.small; omega)).mono ?_
            rintro e w4 ⟨v4, q4, rfl, hq4, hqn4, hC4⟩
            obtain ⟨L5, A5, k5, c5, hv5⟩ : ∃ L5 A5 k5 c5, v4 = .agg #[.int .u64 L5, .slice A5 k5 c5] := by obtain ⟨_, _, A, cap, h, _⟩ := hq4; exact ⟨_, A, _, cap, h⟩
            subst hv5
            have HR4 := Lib.hid (HR3.out.keep hC4)
            have HCh4 := Lib.hid (HCh3.out.trans hC4)
            have hs4 := hC4.size
            clear HR3 HCh3 hq4 hqn4 hC4
            have ho4 := HR4.out.orow
            go_wp2_with (at_builtin; go_loud (refine appBits_at rfl _ _ rfl B i (.slice (some ⟨bo, 0, none⟩) i co) xs rfl ho4 _ _ rfl rfl rfl (by omega) (by omega) ?_); intro b6 c6 w6 hown6 hgr6 hat6; have HO6 := Lib.hid hown6; have HG6 := Lib.hid hgr6; have HA6 := Lib.hid hat6; clear hown6 hgr6 hat6)
            go_roundw
            case rel =>
              obtain ⟨hr6, hc6⟩ := HR4.out.grow (by omega) HO6.out HG6.out HA6.out
              exact ⟨i + 1, by omega, by go_num, .mid (by omega) (by omega) bl cl p0 p1 pon son3 poth soth _ _ q b6 c6 _ rfl rfl hr6 HPP.out, HCh4.out.trans' hc6 (fun k hk hs => by have hs' : B ≤ k := hs; omega)⟩
            case measure => simp [intOf]; omega
          · go_wp2_with fail
            refine (ipSym_any pon son poth soth L' L g' g _ (HRun.out.on.keep (Ch.drewQ w2 nq) (fun h => h) (fun h => h)) (HRun.out.oth.keep (Ch.drewQ w2 nq) (fun h => h) (fun h => h)) (by have := HRun.out.small; omega) (by omega) (Ne.symm HRun.out.ne1.1.1) (Ne.symm HRun.out.ne1.1.2.2.2) (Ne.symm HRun.out.ne1.1.2.2.1) (Ne.symm HRun.out.ne1.1.2.1)).mono ?_
            rintro e w3 ⟨rfl, hO⟩
            obtain ⟨son3, hR3, hC3⟩ := (HRun.out.keep (Ch.drewQ w2 nq)).out hO (by have := HRun.out.small; omega) (show B ≤ w2.heap.size by omega)
            clear hO
            have HR3 := Lib.hid hR3
            have HCh3 := Lib.hid ((HCh2.out.trans (Ch.drewQ w2 nq)).trans' hC3 (fun k hk hs => by have hs' : B ≤ k := hs; omega))
            have hs3 := HCh3.out.size
            clear hR3 hC3 y0 y1 y2 y3 y4 hxo hyo HRun HCh2 BS0 cl0 cl1 s0c s1c s2c s3c s4c HCh
            go_wp2_with fail
            refine (said64_q pon son3 _ _ _ HR3.out.on (by have := HR3.out.small; omega)).mono ?_
            rintro e w4 ⟨v4, q4, rfl, hq4, hqn4, hC4⟩
            obtain ⟨L5, A5, k5, c5, hv5⟩ : ∃ L5 A5 k5 c5, v4 = .agg #[.int .u64 L5, .slice A5 k5 c5] := by obtain ⟨_, _, A, cap, h, _⟩ := hq4; exact ⟨_, A, _, cap, h⟩
            subst hv5
            have HR4 := Lib.hid (HR3.out.keep hC4)
            have HCh4 := Lib.hid (HCh3.out.trans hC4)
            have hs4 := hC4.size
            clear HR3 HCh3 hq4 hqn4 hC4
            have ho4 := HR4.out.orow
            go_wp2_with (at_builtin; go_loud (refine appBits_at rfl _ _ rfl B i (.slice (some ⟨bo, 0, none⟩) i co) xs rfl ho4 _ _ rfl rfl rfl (by omega) (by omega) ?_); intro b6 c6 w6 hown6 hgr6 hat6; have HO6 := Lib.hid hown6; have HG6 := Lib.hid hgr6; have HA6 := Lib.hid hat6; clear hown6 hgr6 hat6)
            go_roundw
            case rel =>
              obtain ⟨hr6, hc6⟩ := HR4.out.grow (by omega) HO6.out HG6.out HA6.out
              exact ⟨i + 1, by omega, by go_num, .mid (by omega) (by omega) bl cl p0 p1 pon son3 poth soth _ _ q b6 c6 _ rfl rfl hr6 HPP.out, HCh4.out.trans' hc6 (fun k hk hs => by have hs' : B ≤ k := hs; omega)⟩
            case measure => simp [intOf]; omega
      case last => omega
    · rcases hAt with ⟨hi, _⟩ | ⟨hi, hn', _⟩ | ⟨hi, hr⟩
      · omega
      · omega
      · obtain ⟨bo, co, y0, y1, z0, z1, hov, hrest⟩ := hr.val
        subst hov
        subst hi
        have HR := Lib.hid hr
        have HCh := Lib.hid hCh
        clear hr hrest hCh
        go_wp2_with fail
        go_ret
        exact ⟨_, rfl, HR.out, HCh.out⟩

end Go.Proofs.Ytgnhmgnpmbmjcaa
