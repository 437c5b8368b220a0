/- SETS: STRun of one step. (Printed by mkT4.py.) -/
import Derived.Test.YtjifdcklmpibpaaT3
import Derived.Deep.RegionHeld3
import Derived.Deep.CutBlock
namespace Go.Proofs.Ytjifdcklmpibpaa
open Go.RowKit
set_option linter.unusedVariables false
set_option linter.unusedSimpArgs false

theorem elBool : EL Try.prog 27 4 1 1 := EL.of (z := .bool false) Try.underlying27 (by kernel_rfl) rfl (by decide)
theorem elSaid : EL Try.prog 39 29 4 64 := EL.of (z := .agg #[.int .i64 0, .slice none 0 0, .bool false, .slice none 0 0]) Try.underlying39 (by kernel_rfl) rfl (by decide)

/-- What the one step says. -/
def Told (w wr : World) (S : Int → Bool) (n : Nat) (out : Value) : Prop := ∃ (g cap : Nat) (F : Option Addr) (cf : Nat) (b : Bool) (ea : Option Addr) (en ec : Nat) (done : List Int), out = .slice (some ⟨g, 0, none⟩) 1 cap ∧ Rd wr (some ⟨g, 0, none⟩) [.int .i64 n, .slice F n cf, .bool b, .slice ea en ec] ∧ Rd wr F (iv done) ∧ (∀ b o, F = some ⟨b, o, none⟩ → w.heap.size ≤ b) ∧ done.length = n ∧ done.Nodup ∧ (∀ y, y ∈ done ↔ S y = true) ∧ Ch S0 w wr

/-- Add, or Remove. -/
def does (op : Int) (p : (Int → Bool) × Nat) (ys : List Int) : (Int → Bool) × Nat := if op = 1 then puts p ys else pops p ys

set_option maxRecDepth 100000 in
set_option maxHeartbeats 8000000 in
theorem run_one (A B C : Option Addr) (n cA cB m cC : Nat) (op : Int) (xs ys : List Int) (w : World) (hop : op = 1 ∨ op = 2) (hx : xs.length = n) (hn : n ≤ 1000) (hA : Rd w A (iv xs)) (hB : Rd w B [.int .i64 op, .slice C m cC]) (hy : ys.length = m) (hm : m ≤ 1000) (hC : Rd w C (iv ys)) :
    Calls Try.prog 10 #[.slice A n cA, .slice B 1 cB] w fun r w' => ∃ v, r = .returned v ∧ Told w w' (does op (puts (fun _ => false, 0) xs) ys).1 (does op (puts (fun _ => false, 0) xs) ys).2 v := by
  have HX := Lib.hid hx
  have HY := Lib.hid hy
  have HA := Lib.hid hA
  have HB := Lib.hid hB
  have HC := Lib.hid hC
  have hm6 : m ≤ 1000000 := by omega
  have hq1 : (does op (puts (fun _ => false, 0) xs) ys).2 ≤ 2000 := by
    have h1 := puts_n xs (fun _ => false, 0)
    simp only at h1
    unfold does
    split
    · have := puts_n ys (puts (fun _ => false, 0) xs); omega
    · have : ∀ (ks : List Int) (p : (Int → Bool) × Nat), (pops p ks).2 ≤ p.2 := by
        intro ks
        induction ks with
        | nil => intro p; exact Nat.le_refl _
        | cons k ks ih =>
          intro p
          have h := ih (popS p.1 k, popN p.1 p.2 k)
          have h2 : popN p.1 p.2 k ≤ p.2 := by unfold popN; split <;> omega
          simp only [pops, List.foldl_cons] at h ⊢
          omega
      have := this ys (puts (fun _ => false, 0) xs)
      omega
  have HQ1 := Lib.hid hq1
  clear hx hA hB hC hy hq1
  go_enter Try.func10, Try.ntmps10
  go_wp2_with fail
  refine (anys_any A n cA xs _ HX.out (by omega) HA.out).mono ?_
  rintro r w1 ⟨v1, rfl, hO1, hC1⟩
  obtain ⟨A1, cap1, rfl, hR1, _⟩ := own_rd hO1
  have HR1 := Lib.hid hR1
  have HC1 := Lib.hid hC1
  clear hO1 hR1 hC1
  go_wp2_with fail
  refine (new_any A1 n cap1 xs _ HX.out (by omega) HR1.out).mono ?_
  rintro r w2 ⟨⟨s, mb, rfl, hS2, hs2, hmb2⟩, hC2⟩
  have HS2 := Lib.hid hS2
  have HC2 := Lib.hid (HC1.out.trans hC2)
  have hws : w.heap.size ≤ s ∧ w.heap.size ≤ mb := by have := HC1.out.size; omega
  have HWs := Lib.hid hws
  clear hS2 hC2 hs2 hmb2 hws
  go_wp2_with fail
  go_loopw [6, 19] (fun vo vi wr => (vi = .int .i64 0 ∧ vo = .slice none 0 0 ∧ SetM wr s mb (.slice none 0 0) (puts (fun _ => false, 0) xs).1 (puts (fun _ => false, 0) xs).2 ∧ Ch S0 w wr) ∨ (vi = .int .i64 1 ∧ Told w wr (does op (puts (fun _ => false, 0) xs) ys).1 (does op (puts (fun _ => false, 0) xs) ys).2 vo)) (fun _ vi _ => 1 - (intOf vi).toNat)
  case atStart => exact Or.inl ⟨rfl, rfl, HS2.out, HC2.out⟩
  case round =>
    rcases hrel with ⟨rfl, rfl, hS, hC⟩ | ⟨rfl, hT⟩
    case inr =>
      have HT := Lib.hid hT
      clear hT
      go_wp2_with fail
      go_ret
      exact ⟨_, rfl, HT.out⟩
    case inl =>
    obtain ⟨wo, rfl⟩ : ∃ wo : World, wo = wr := ⟨_, rfl⟩
    have hRB := HB.out.keep0 hC
    obtain ⟨qb, ob, e, c0⟩ := hRB.at (j := 0) rfl
    subst e
    obtain ⟨_, _, e, c1⟩ := hRB.at (j := 1) rfl
    cases e
    simp only [Nat.add_zero] at c0
    have HS := Lib.hid hS
    have HCo := Lib.hid hC
    have HBs := Lib.hid (Blk.new wo #[.int .i64 op, .slice C m cC] 33)
    have HCb : Hid (Ch S0 wo (wo.alloc (.cells #[.int .i64 op, .slice C m cC] 33))) := Lib.hid ((Ch.refl S0 wo).alloc _)
    have hqb := World.block_lt_of_cell? _ _ c0
    clear hS hC hRB
    obtain ⟨p, hp⟩ : ∃ p, does op (puts (fun _ => false, 0) xs) ys = p := ⟨_, rfl⟩
    obtain ⟨p0, hp0⟩ : ∃ p0, puts (fun _ => false, 0) xs = p0 := ⟨_, rfl⟩
    rw [hp0] at HS hp
    have HP := Lib.hid hp
    have HP0 := Lib.hid hp0
    have hq1 := HQ1.out
    clear hp hp0 hq1
    go_upto_block 2 with fail
    go_cut [19] from 19 to 89 (fun v19 w4 => v19 = .int .i64 0 ∧ SetM w4 s mb (.slice none 0 0) p.1 p.2 ∧ Blk w4 wo.heap.size #[.int .i64 op, .slice C m cC] ∧ Ch S0 w w4)
    case first =>
      rcases hop with rfl | rfl
      · have hd : does 1 p0 ys = puts p0 ys := by simp [does]
        go_wp2_with fail
        refine (anys_any C m cC ys _ HY.out hm6 (HC.out.keep0 (HCo.out.trans HCb.out))).mono ?_
        rintro r w3 ⟨v3, rfl, hO3, hC3⟩
        obtain ⟨A3, cap3, rfl, hR3, _, hA3, _, _⟩ := own_rd hO3
        have HR3 := Lib.hid hR3
        have HC3 := Lib.hid (HCb.out.trans hC3)
        have hap : ∀ b o, A3 = some ⟨b, o, none⟩ → b ≠ s ∧ b ≠ mb := fun b o h => by
          have h1 := (hA3 b o none h).2.1
          have h2 := HCb.out.size
          have h3 := HS.out.blk.lt
          have h4 := HS.out.map.lt
          omega
        have HAp := Lib.hid hap
        have HB3 := Lib.hid (HBs.out.keep hC3 (fun h => h))
        clear hO3 hR3 hC3 hA3 hap
        go_wp2_with fail
        refine (add_any s mb p0.2 _ p0.1 A3 m cap3 ys _ (HS.out.keep0 HC3.out) HY.out hm6 HR3.out HAp.out).mono ?_
        rintro r w4 ⟨rfl, hS4, hC4⟩
        have hS4 : SetM w4 s mb (.slice none 0 0) p.1 p.2 := by rw [← HP.out, hd]; exact hS4
        have hWs := HWs.out
        have hsb : ∀ i, i < w.heap.size → ¬ S2 s mb i := fun i hi e => by rcases e with e | e <;> omega
        have hHb := HBs.out.lt
        have hsl := HS.out.blk.lt
        have hml := HS.out.map.lt
        have HB4 := Lib.hid (HB3.out.keep hC4 (fun e => by rcases e with e | e <;> omega))
        have HC4 := Lib.hid ((HCo.out.trans HC3.out).trans' hC4 (fun i hi hs => absurd hs (hsb i hi)))
        have HS4 := Lib.hid hS4
        clear hS4 hC4 hsb hd hHb hsl hml hWs
        go_wp2_with fail
        go_meet
        exact ⟨rfl, HS4.out, HB4.out, HC4.out⟩
      · have hd : does 2 p0 ys = pops p0 ys := by simp [does]
        go_wp2_with fail
        refine (anys_any C m cC ys _ HY.out hm6 (HC.out.keep0 (HCo.out.trans HCb.out))).mono ?_
        rintro r w3 ⟨v3, rfl, hO3, hC3⟩
        obtain ⟨A3, cap3, rfl, hR3, _, hA3, _, _⟩ := own_rd hO3
        have HR3 := Lib.hid hR3
        have HC3 := Lib.hid (HCb.out.trans hC3)
        have hap : ∀ b o, A3 = some ⟨b, o, none⟩ → b ≠ s ∧ b ≠ mb := fun b o h => by
          have h1 := (hA3 b o none h).2.1
          have h2 := HCb.out.size
          have h3 := HS.out.blk.lt
          have h4 := HS.out.map.lt
          omega
        have HAp := Lib.hid hap
        have HB3 := Lib.hid (HBs.out.keep hC3 (fun h => h))
        clear hO3 hR3 hC3 hA3 hap
        go_wp2_with fail
        refine (remove_any s mb p0.2 _ p0.1 A3 m cap3 ys _ (HS.out.keep0 HC3.out) HY.out hm6 HR3.out HAp.out).mono ?_
        rintro r w4 ⟨rfl, hS4, hC4⟩
        have hS4 : SetM w4 s mb (.slice none 0 0) p.1 p.2 := by rw [← HP.out, hd]; exact hS4
        have hWs := HWs.out
        have hsb : ∀ i, i < w.heap.size → ¬ S2 s mb i := fun i hi e => by rcases e with e | e <;> omega
        have hHb := HBs.out.lt
        have hsl := HS.out.blk.lt
        have hml := HS.out.map.lt
        have HB4 := Lib.hid (HB3.out.keep hC4 (fun e => by rcases e with e | e <;> omega))
        have HC4 := Lib.hid ((HCo.out.trans HC3.out).trans' hC4 (fun i hi hs => absurd hs (hsb i hi)))
        have HS4 := Lib.hid hS4
        clear hS4 hC4 hsb hd hHb hsl hml hWs
        go_wp2_with fail
        go_meet
        exact ⟨rfl, HS4.out, HB4.out, HC4.out⟩
    case rest =>
      obtain ⟨rfl, hS4, hB4, hC4⟩ := hcut
      obtain ⟨w4, rfl⟩ : ∃ w4 : World, w4 = wc := ⟨_, rfl⟩
      have HB4 := Lib.hid hB4
      have HS4 := Lib.hid hS4
      have HC4 := Lib.hid hC4
      have HR4 := Lib.hid (HC.out.keep0 HC4.out)
      have hp2 : p.2 ≤ 1000000 := by rw [← HP.out, ← HP0.out]; exact Nat.le_trans HQ1.out (by omega)
      clear hS4 hC4 hB4
      go_upto_region 13 with fail
      have x0 := HB4.out.cell 1
      have xl := HB4.out.lt
      simp only [List.getElem?_toArray, List.getElem?_cons_zero, List.getElem?_cons_succ] at x0
      go_cut [9, 19] from 19 to 89 (fun v9 v19 wr => ∃ (q : Nat) (bb : Bool), v9 = .pointer (some ⟨q, 0, none⟩) ∧ v19 = .int .i64 0 ∧ w4.heap.size ≤ q ∧ Blk wr q #[.int .i64 (p.2 : Nat), .slice none 0 0, .bool bb, .slice none 0 0] ∧ Ch S0 w4 wr)
      case first =>
        go_region_law (first | (go_simp; go_at_call 18; (with_reducible refine (len_any s mb p.2 _ p.1 w4.drew (HS4.out.keep0 (Ch.refl S0 w4).drew)).mono ?_); rintro r _ ⟨rfl, rfl⟩) | (go_simp; go_at_call 18; (with_reducible refine (len_any s mb p.2 _ p.1 (w4.alloc (.cells #[.int .i64 0, .slice none 0 0, .bool false, .slice none 0 0] 29)).drew (HS4.out.keep0 (((Ch.refl S0 w4).alloc (.cells #[.int .i64 0, .slice none 0 0, .bool false, .slice none 0 0] 29)).drew))).mono ?_); rintro r _ ⟨rfl, rfl⟩) | (go_simp; go_at_call 18; (with_reducible refine (len_any s mb p.2 _ p.1 (wl.alloc (.cells #[.int .i64 0, .slice none 0 0, .bool false, .slice none 0 0] 29)) (HSl.out.keep0 ((Ch.refl S0 wl).alloc (.cells #[.int .i64 0, .slice none 0 0, .bool false, .slice none 0 0] 29)))).mono ?_); rintro r _ ⟨rfl, rfl⟩) | (go_simp; go_at_call 18; (with_reducible refine (len_any s mb p.2 _ p.1 wl HSl.out).mono ?_); rintro r _ ⟨rfl, rfl⟩) | (go_simp; go_at_call 18; (with_reducible refine (len_any s mb p.2 _ p.1 (wm.alloc (.cells #[.int .i64 0, .slice none 0 0, .bool false, .slice none 0 0] 29)) (HSm.out.keep0 ((Ch.refl S0 wm).alloc (.cells #[.int .i64 0, .slice none 0 0, .bool false, .slice none 0 0] 29)))).mono ?_); rintro r _ ⟨rfl, rfl⟩) | (go_simp; go_at_call 18; (with_reducible refine (len_any s mb p.2 _ p.1 wm HSm.out).mono ?_); rintro r _ ⟨rfl, rfl⟩) | (go_simp; go_at_call 14; (with_reducible refine (anys_any C m cC ys w4.drew HY.out hm6 (HR4.out.keep0 ((Ch.refl S0 w4).drew))).mono ?_); rintro r wl ⟨v, rfl, hOv, hCv⟩; obtain ⟨Av, capv, rfl, hRv, _⟩ := own_rd hOv; have HRv := Lib.hid hRv; have HK := Lib.hid (Ch.trans ((Ch.refl S0 w4).drew) hCv); have HSl := Lib.hid (HS4.out.keep0 (Ch.trans ((Ch.refl S0 w4).drew) hCv)); have x0 := (HB4.out.keep (Ch.trans ((Ch.refl S0 w4).drew) hCv) (fun h => h)).cell 1; simp only [List.getElem?_toArray, List.getElem?_cons_zero, List.getElem?_cons_succ] at x0; clear hOv hRv hCv) | (go_simp; go_at_call 14; (with_reducible refine (anys_any C m cC ys (w4.alloc (.cells #[.int .i64 0, .slice none 0 0, .bool false, .slice none 0 0] 29)).drew HY.out hm6 (HR4.out.keep0 (((Ch.refl S0 w4).alloc (.cells #[.int .i64 0, .slice none 0 0, .bool false, .slice none 0 0] 29)).drew))).mono ?_); rintro r wl ⟨v, rfl, hOv, hCv⟩; obtain ⟨Av, capv, rfl, hRv, _⟩ := own_rd hOv; have HRv := Lib.hid hRv; have HK := Lib.hid (Ch.trans (((Ch.refl S0 w4).alloc (.cells #[.int .i64 0, .slice none 0 0, .bool false, .slice none 0 0] 29)).drew) hCv); have HSl := Lib.hid (HS4.out.keep0 (Ch.trans (((Ch.refl S0 w4).alloc (.cells #[.int .i64 0, .slice none 0 0, .bool false, .slice none 0 0] 29)).drew) hCv)); have x0 := (HB4.out.keep (Ch.trans (((Ch.refl S0 w4).alloc (.cells #[.int .i64 0, .slice none 0 0, .bool false, .slice none 0 0] 29)).drew) hCv) (fun h => h)).cell 1; simp only [List.getElem?_toArray, List.getElem?_cons_zero, List.getElem?_cons_succ] at x0; have HZ := Lib.hid (Blk.keep (Blk.drew (Blk.new w4 #[.int .i64 0, .slice none 0 0, .bool false, .slice none 0 0] 29)) hCv (fun h => h)); have HZq := Lib.hid (show w4.heap.size ≤ w4.heap.size from Nat.le_refl _); clear hOv hRv hCv) | (go_simp; go_at_call 19; (with_reducible refine (all_any s mb p.2 _ p.1 Av m capv ys (wl.alloc (.cells #[.int .i64 0, .slice none 0 0, .bool false, .slice none 0 0] 29)) (HSl.out.keep0 ((Ch.refl S0 wl).alloc (.cells #[.int .i64 0, .slice none 0 0, .bool false, .slice none 0 0] 29))) HY.out hm6 (HRv.out.keep0 ((Ch.refl S0 wl).alloc (.cells #[.int .i64 0, .slice none 0 0, .bool false, .slice none 0 0] 29)))).mono ?_); rintro r wm ⟨⟨bb, rfl⟩, hCa⟩; have HSm := Lib.hid (HSl.out.keep0 (Ch.trans ((Ch.refl S0 wl).alloc (.cells #[.int .i64 0, .slice none 0 0, .bool false, .slice none 0 0] 29)) hCa)); have HKm := Lib.hid (HK.out.trans (Ch.trans ((Ch.refl S0 wl).alloc (.cells #[.int .i64 0, .slice none 0 0, .bool false, .slice none 0 0] 29)) hCa)); have hz := Blk.keep (Blk.new wl #[.int .i64 0, .slice none 0 0, .bool false, .slice none 0 0] 29) hCa (fun h => h); have z0 := hz.cell 0; have z1 := hz.cell 1; have z2 := hz.cell 2; have z3 := hz.cell 3; have y0 := hz.free 0; have y1 := hz.free 1; have y2 := hz.free 2; have y3 := hz.free 3; simp only [List.getElem?_toArray, List.getElem?_cons_zero, List.getElem?_cons_succ] at z0 z1 z2 z3; have HZm := Lib.hid hz; clear hz; clear hCa) | (have HZ9 := HZ; go_simp; go_at_call 19; (with_reducible refine (all_any s mb p.2 _ p.1 Av m capv ys wl (HSl.out.keep0 (Ch.refl S0 wl)) HY.out hm6 (HRv.out.keep0 (Ch.refl S0 wl))).mono ?_); rintro r wm ⟨⟨bb, rfl⟩, hCa⟩; have HSm := Lib.hid (HSl.out.keep0 (Ch.trans (Ch.refl S0 wl) hCa)); have HKm := Lib.hid (HK.out.trans (Ch.trans (Ch.refl S0 wl) hCa)); have hz := Blk.keep HZ.out hCa (fun h => h); have z0 := hz.cell 0; have z1 := hz.cell 1; have z2 := hz.cell 2; have z3 := hz.cell 3; have y0 := hz.free 0; have y1 := hz.free 1; have y2 := hz.free 2; have y3 := hz.free 3; simp only [List.getElem?_toArray, List.getElem?_cons_zero, List.getElem?_cons_succ] at z0 z1 z2 z3; have HZm := Lib.hid hz; clear hz; clear hCa) | (go_simp; go_at_call 19; (with_reducible refine (all_any s mb p.2 _ p.1 Av m capv ys wl (HSl.out.keep0 (Ch.refl S0 wl)) HY.out hm6 (HRv.out.keep0 (Ch.refl S0 wl))).mono ?_); rintro r wm ⟨⟨bb, rfl⟩, hCa⟩; have HSm := Lib.hid (HSl.out.keep0 (Ch.trans (Ch.refl S0 wl) hCa)); have HKm := Lib.hid (HK.out.trans (Ch.trans (Ch.refl S0 wl) hCa)); clear hCa))
        all_goals (go_wp2_with fail; go_meet; first
          | exact ⟨_, _, rfl, rfl, HKm.out.size, Blk.new _ _ _, HKm.out.alloc _⟩
          | exact ⟨_, _, rfl, rfl, by first | exact Nat.le_refl _ | exact HK.out.size, by simpa using ((((HZm.out.set 0 (.int .i64 (p.2 : Nat))).set 1 (.slice none 0 0)).set 2 (.bool bb)).set 3 (.slice none 0 0)), (((HKm.out.setCell _ (fun h => absurd h (Nat.not_lt.2 (by first | exact Nat.le_refl _ | exact HK.out.size))) _).setCell _ (fun h => absurd h (Nat.not_lt.2 (by first | exact Nat.le_refl _ | exact HK.out.size))) _).setCell _ (fun h => absurd h (Nat.not_lt.2 (by first | exact Nat.le_refl _ | exact HK.out.size))) _).setCell _ (fun h => absurd h (Nat.not_lt.2 (by first | exact Nat.le_refl _ | exact HK.out.size))) _⟩)
      case rest =>
      obtain ⟨q, bb, rfl, rfl, hq, hZ, hC5⟩ := hcut
      obtain ⟨w5, rfl⟩ : ∃ w5 : World, w5 = wc := ⟨_, rfl⟩
      have HS5 := Lib.hid (HS4.out.keep0 hC5)
      have HB5 := Lib.hid (HB4.out.keep hC5 (fun h => h))
      have HZ5 := Lib.hid hZ
      have HC5 := Lib.hid (HC4.out.trans hC5)
      have hqs : q ≠ s ∧ q ≠ mb ∧ q ≠ wo.heap.size := by
        have h1 := HS4.out.blk.lt
        have h2 := HS4.out.map.lt
        have h3 := HB4.out.lt
        omega
      have HQs := Lib.hid hqs
      have hq0 : w.heap.size ≤ q := Nat.le_trans HC4.out.size hq
      have HQ0 := Lib.hid hq0
      clear hZ hC5 hqs hq hq0
      go_wp2_with fail
      refine (flat_first s mb p.2 p.1 _ HS5.out hp2).mono ?_
      rintro r w6 ⟨⟨done, fa, fcap, rfl, hdl, hnd, hmem, hS6, hO6⟩, hC6⟩
      obtain ⟨FA, fcap', hFA, hR6, _, hF6, _, _⟩ := own_rd hO6
      have hFA : some fa = FA ∧ fcap = fcap' := by simpa using hFA
      obtain ⟨rfl, rfl⟩ := hFA
      have HS6 := Lib.hid hS6
      have HR6 := Lib.hid hR6
      have HZ6 := Lib.hid (HZ5.out.keep hC6 (fun e => HQs.out.1 e))
      have hws : wo.heap.size ≠ s := by have := HS.out.blk.lt; omega
      have HB6 := Lib.hid (HB5.out.keep hC6 (fun e => hws e))
      have HC6 := Lib.hid (HC5.out.trans' hC6 (fun i hi hs => absurd hs (by have := HWs.out.1; show ¬ i = s; omega)))
      have hfq : ∀ b o sp, (some fa : Option Addr) = some ⟨b, o, sp⟩ → b ≠ q ∧ w5.heap.size ≤ b := fun b o sp h => by
        have h1 := (hF6 b o sp h).2.1
        have h2 := HZ5.out.lt
        omega
      have HFq := Lib.hid hfq
      have HDl := Lib.hid hdl
      have HNd := Lib.hid hnd
      have HMem := Lib.hid hmem
      clear hdl hnd hmem hS6 hO6 hC6 hR6 hF6 hfq hws
      go_wp2_with fail
      refine (flat_again s mb p.2 p.2 fcap fa p.1 _ HS6.out).mono ?_
      rintro r w7 ⟨rfl, rfl⟩
      go_wp2_with fail
      obtain ⟨N, hN⟩ : ∃ N, p.2 = N := ⟨_, rfl⟩
      rw [hN] at HDl HS6 HZ6
      have HN := Lib.hid hN
      have hN6 : N ≤ 1000000 := by omega
      have hql := HZ6.out.lt
      have HQl := Lib.hid hql
      rw [hN]
      clear hN hql hp2
      go_loopw [56] (fun v56 wr => ∃ (i : Nat) (vf : Value), i ≤ N ∧ v56 = .int .i64 i ∧ Blk wr q #[.int .i64 (N : Nat), vf, .bool bb, .slice none 0 0] ∧ wr.ownsRow w7.heap.size 3 1 vf i (iv (done.take i)) ∧ Ch (S1 q) w7 wr) (fun v56 _ => N - (intOf v56).toNat)
      case atStart => exact ⟨0, _, by omega, rfl, HZ6.out, World.ownsRow_nil _ _ _ _, Ch.refl _ _⟩
      case round =>
        obtain ⟨i, vf, hi, rfl, hZ, hO, hC⟩ := hrel
        have HZ := Lib.hid hZ
        have HO := Lib.hid hO
        have HCi := Lib.hid hC
        have hqx : q < wr.heap.size := hZ.lt
        by_cases hlt : i < N
        · have hlti : (i : Int) < (N : Nat) := by omega
          have hi0 : (0 : Int) ≤ (i : Nat) := by omega
          have hit : ((i : Nat) : Int).toNat = i := by omega
          obtain ⟨y, hy⟩ : ∃ y, done[i]? = some y := ⟨done[i]'(by have := HDl.out; omega), by simp [HDl.out, hlt]⟩
          obtain ⟨fb, fo, e, c0⟩ := (HR6.out.keep hC (fun b o h e => (HFq.out b o none h).1 e)).at (fv_at hy)
          obtain rfl : fa = ⟨fb, fo, none⟩ := by simpa using e
          have c0 : wr.cell? ⟨fb, fo + i, none⟩ = some (.iface 3 (.int .i64 y)) := c0
          have hty : ∀ w, (Instr.typeAssert (.iface 3 (.int .i64 y)) 20 3 false).run Try.prog w = .ok (.int .i64 y) w := fun _ => by kernel_rfl
          have z1 := hZ.cell 1
          have y1 := hZ.free 1
          simp only [List.getElem?_toArray, List.getElem?_cons_zero, List.getElem?_cons_succ] at z1
          have hts : iv (done.take (i + 1)) = iv (done.take i) ++ [.int .i64 y] := by rw [take_snoc' hy, iv_snoc]
          have HT := Lib.hid hts
          have HOn : Hid ((wr.alloc (.cells #[.int .i64 y] 3)).drew.ownsRow w7.heap.size 3 1 vf i (iv (done.take i))) := Lib.hid (own_keep0 hO ((Ch.refl S0 wr).alloc _).drew)
          have HRn : Hid (Rd (wr.alloc (.cells #[.int .i64 y] 3)).drew (some ⟨wr.heap.size, 0, none⟩) [.int .i64 y]) := Lib.hid (Rd.keep0 (Rd.new wr [.int .i64 y] 3) (Ch.refl S0 _).drew)
          have HM1 : Hid (i + 1 ≤ maxLen) := Lib.hid (by unfold maxLen; omega)
          have HM2 : Hid ((i + 1) * 8 ≤ 140737488355328) := Lib.hid (by omega)
          have HOne : Hid (∀ u ∈ [Value.int .i64 y], u.oneCell' = true) := Lib.hid (by simp [Value.oneCell'])
          have HSz : Hid (w7.heap.size ≤ (wr.alloc (.cells #[.int .i64 y] 3)).drew.heap.size) := Lib.hid (Nat.le_trans hC.size ((Ch.refl S0 wr).alloc (.cells #[.int .i64 y] 3)).drew.size)
          have hvq : ∀ g, vf.ownBlock = some g → w7.heap.size ≤ g := fun g hg => (own_lt hO g hg).1
          have HVq := Lib.hid hvq
          have HZn : Hid (Blk (wr.alloc (.cells #[.int .i64 y] 3)).drew q #[.int .i64 (N : Nat), vf, .bool bb, .slice none 0 0]) := Lib.hid (hZ.alloc _).drew
          clear hZ hO hC hy hts e hvq
          go_wp2_with fail
          go_region_law (refine step_all elInt rfl (.tmp 61) (.tmp 64) rfl w7.heap.size i vf (iv (done.take i)) (by rfl) HOn.out wr.heap.size 0 1 1 [.int .i64 y] rfl HOne.out (by rfl) HRn.out HM1.out HM2.out HSz.out ?_; intro v8 w8 hO8 hC8 hb8 _; obtain ⟨A8, cap8, rfl, _⟩ := own_rd hO8; have HO8 := Lib.hid hO8; have HC8 := Lib.hid hC8; have hz8 := HZn.out.keep hC8 (fun e => absurd (HVq.out q e) (Nat.not_le.2 HQl.out)); have p1 := hz8.cell 1; have r1 := hz8.free 1; simp only [List.getElem?_toArray, List.getElem?_cons_zero, List.getElem?_cons_succ] at p1; have HZ8 := Lib.hid hz8; clear hO8 hC8 hb8 hz8)
          all_goals
            go_wp2_with fail
            go_roundw
            case rel =>
              have hst : Ch (S1 q) w8 (w8.setCell ⟨q, 1, none⟩ (.slice A8 (i + 1) cap8)) := (Ch.refl (S1 q) w8).setCell ⟨q, 1, none⟩ (fun _ => rfl) _
              have hb8 := own_lt HO8.out
              refine ⟨i + 1, _, by omega, by go_num, by simpa using HZ8.out.set 1 (.slice A8 (i + 1) cap8), ?_, ?_⟩
              · rw [HT.out]
                exact own_keepS HO8.out hst (fun g hg e => by have h1 := (hb8 g hg).1; have h2 := HQl.out; have e : g = q := e; omega)
              · exact ((HCi.out.trans ((Ch.refl (S1 q) wr).alloc (.cells #[.int .i64 y] 3)).drew).trans' HC8.out (fun i hi e => absurd (HVq.out i e) (by omega))).trans hst
            case measure => simp [intOf]; omega
        · have hin : ¬ (i : Int) < (N : Nat) := by omega
          obtain rfl : N = i := by omega
          obtain ⟨w9, rfl⟩ : ∃ w9 : World, w9 = wr := ⟨_, rfl⟩
          have hO9 := HO.out
          rw [List.take_of_length_le (by rw [HDl.out]; exact Nat.le_refl _)] at hO9
          have hvq : ∀ g, vf.ownBlock = some g → w7.heap.size ≤ g ∧ g < w9.heap.size := fun g hg => own_lt hO9 g hg
          have HVq := Lib.hid hvq
          have HO9 := Lib.hid hO9
          have HC9 := Lib.hid (HC6.out.trans' HCi.out (fun i hi e => by have e : i = q := e; have h1 := HFq.out; have := HZ5.out.lt; have := HQ0.out; omega))
          have HVs := Lib.hid (HCi.out.size)
          have HR9 := Lib.hid (HC.out.keep0 HC9.out)
          have hrq : ∀ b o, C = some ⟨b, o, none⟩ → b ≠ q ∨ m = 0 := fun b o h => by
            by_cases h0 : m = 0
            · exact Or.inr h0
            · obtain ⟨b', o', e, hl⟩ := HC.out.lt (by simp; have := HY.out; omega)
              rw [h] at e
              cases e
              have := HQ0.out
              exact Or.inl (by omega)
          have HRq := Lib.hid hrq
          have hS9 := HS6.out.keep HCi.out (fun e => HQs.out.1 e.symm) (fun e => HQs.out.2.1 e.symm)
          have HS9 := Lib.hid hS9
          have hB9 := HB6.out.keep HCi.out (fun e => HQs.out.2.2 e.symm)
          have b1 := hB9.cell 1
          simp only [List.getElem?_toArray, List.getElem?_cons_zero, List.getElem?_cons_succ] at b1
          clear hZ hO hC hO9 hvq hB9 hS9 hrq
          go_wp2_with fail
          go_loopw [71] (fun v71 wr => ∃ (i : Nat) (ve : Value), i ≤ m ∧ v71 = .int .i64 i ∧ Blk wr q #[.int .i64 (N : Nat), vf, .bool bb, ve] ∧ wr.ownsRow w9.heap.size 4 1 ve i ((ys.take i).map fun y => .bool (p.1 y)) ∧ Ch (S1 q) w9 wr) (fun v71 _ => m - (intOf v71).toNat)
          case atStart => exact ⟨0, _, by omega, rfl, HZ.out, World.ownsRow_nil _ _ _ _, Ch.refl _ _⟩
          case round =>
            obtain ⟨i, ve, hi, rfl, hZ, hO, hC⟩ := hrel
            have HZe := Lib.hid hZ
            have HOe := Lib.hid hO
            have HCe := Lib.hid hC
            have hqx : q < wr.heap.size := hZ.lt
            have hq9 : q < w9.heap.size := by have := HCe.out; have h1 := HQl.out; have := HVs.out; omega
            by_cases hlt : i < m
            · have hlti : (i : Int) < (m : Nat) := by omega
              obtain ⟨y, hy⟩ : ∃ y, ys[i]? = some y := ⟨ys[i]'(by have := HY.out; omega), by simp [HY.out, hlt]⟩
              obtain ⟨cb, co, e, c0⟩ := (HR9.out.keep hC (fun b o h e => by have h1 := HRq.out b o h; have e : b = q := e; omega)).at (iv_at hy)
              subst e
              have z3 := hZ.cell 3
              have y3 := hZ.free 3
              simp only [List.getElem?_toArray, List.getElem?_cons_zero, List.getElem?_cons_succ] at z3
              have hts : (ys.take (i + 1)).map (fun y => Value.bool (p.1 y)) = (ys.take i).map (fun y => Value.bool (p.1 y)) ++ [.bool (p.1 y)] := by rw [take_snoc' hy]; simp
              have HT := Lib.hid hts
              obtain ⟨by', hby⟩ : ∃ b, p.1 y = b := ⟨_, rfl⟩
              rw [hby] at HT
              have HSi := Lib.hid (HS9.out.keep hC (fun e => HQs.out.1 e.symm) (fun e => HQs.out.2.1 e.symm))
              have hex := exists_any s mb N (.slice (some fa) N fcap) p.1 y wr.drew (HSi.out.keep0 (Ch.refl S0 wr).drew)
              rw [hby] at hex
              have HEx := Lib.hid hex
              have HM1 : Hid (i + 1 ≤ maxLen) := Lib.hid (by unfold maxLen; omega)
              have HM2 : Hid ((i + 1) * 1 ≤ 140737488355328) := Lib.hid (by omega)
              have HOne : Hid (∀ u ∈ [Value.bool by'], u.oneCell' = true) := Lib.hid (by simp [Value.oneCell'])
              have hvq : ∀ g, ve.ownBlock = some g → w9.heap.size ≤ g := fun g hg => (own_lt hO g hg).1
              have HVe := Lib.hid hvq
              have HQ9 := Lib.hid hq9
              have HCz := Lib.hid hC.size
              clear hZ hO hC hy hts hvq hby hex
              go_wp2_with fail
              go_region_law (first | (go_simp; go_at_call 21; (with_reducible refine HEx.out.mono ?_); rintro r w10 ⟨rfl, hC10⟩; have hk := ((Ch.refl S0 wr).drew.trans hC10); have HK := Lib.hid hk; have hz10 := HZe.out.keep hk (fun h => h); have q3 := hz10.cell 3; have t3 := hz10.free 3; simp only [List.getElem?_toArray, List.getElem?_cons_zero, List.getElem?_cons_succ] at q3; have hql10 := hz10.lt; have HOn : Hid ((w10.alloc (.cells #[.bool by'] 4)).ownsRow w9.heap.size 4 1 ve i ((ys.take i).map fun y => .bool (p.1 y))) := Lib.hid (own_keep0 HOe.out (hk.alloc _)); have HRn : Hid (Rd (w10.alloc (.cells #[.bool by'] 4)) (some ⟨w10.heap.size, 0, none⟩) [.bool by']) := Lib.hid (Rd.new w10 _ _); have HSz : Hid (w9.heap.size ≤ (w10.alloc (.cells #[.bool by'] 4)).heap.size) := Lib.hid (Nat.le_trans HCz.out (hk.alloc (.cells #[.bool by'] 4)).size); have HZn := Lib.hid (hz10.alloc (.cells #[.bool by'] 4)); clear hC10 hk hz10) | (refine step_all elBool rfl (.tmp 76) (.tmp 81) rfl w9.heap.size i ve ((ys.take i).map fun y => .bool (p.1 y)) (by rfl) HOn.out w10.heap.size 0 1 1 [.bool by'] rfl HOne.out (by rfl) HRn.out HM1.out HM2.out HSz.out ?_; intro v8 w8 hO8 hC8 hb8 _; obtain ⟨A8, cap8, rfl, _⟩ := own_rd hO8; have HO8 := Lib.hid hO8; have HC8 := Lib.hid hC8; have hz8 := HZn.out.keep hC8 (fun e => absurd (HVe.out q e) (Nat.not_le.2 HQ9.out)); have p1 := hz8.cell 3; have r1 := hz8.free 3; simp only [List.getElem?_toArray, List.getElem?_cons_zero, List.getElem?_cons_succ] at p1; have HZ8 := Lib.hid hz8; clear hO8 hC8 hb8 hz8))
              all_goals
                go_wp2_with fail
                go_roundw
                case rel =>
                  have hst : Ch (S1 q) w8 (w8.setCell ⟨q, 3, none⟩ (.slice A8 (i + 1) cap8)) := (Ch.refl (S1 q) w8).setCell ⟨q, 3, none⟩ (fun _ => rfl) _
                  have hb8 := own_lt HO8.out
                  refine ⟨i + 1, _, by omega, by go_num, by simpa using HZ8.out.set 3 (.slice A8 (i + 1) cap8), ?_, ?_⟩
                  · rw [HT.out]
                    exact own_keepS HO8.out hst (fun g hg e => by have h1 := (hb8 g hg).1; have h2 := HQ9.out; have e : g = q := e; omega)
                  · exact ((HCe.out.trans ((HK.out.alloc (.cells #[.bool by'] 4)).mono (fun _ _ h => h.elim))).trans' HC8.out (fun i hi e => absurd (HVe.out i e) (by omega))).trans hst
                case measure => simp [intOf]; omega
            · have hin : ¬ (i : Int) < (m : Nat) := by omega
              obtain ⟨w11, rfl⟩ : ∃ w11 : World, w11 = wr := ⟨_, rfl⟩
              have hz := HZe.out
              have k0 := hz.cell 0
              have k1 := hz.cell 1
              have k2 := hz.cell 2
              have k3 := hz.cell 3
              simp only [List.getElem?_toArray, List.getElem?_cons_zero, List.getElem?_cons_succ] at k0 k1 k2 k3
              obtain ⟨Fv, capF, hvf, hRF, _, hFv, _, _⟩ := own_rd HO9.out
              subst hvf
              obtain ⟨Ev, capE, rfl, _⟩ := own_rd HOe.out
              have hRF11 := hRF.keep HCe.out (fun b o h e => by have h1 := (hFv b o none h).2.1; have h2 := HQl.out; have e : b = q := e; omega)
              have HRF := Lib.hid hRF11
              have HFw : Hid (∀ b o, Fv = some ⟨b, o, none⟩ → w.heap.size ≤ b) := Lib.hid (fun b o h => Nat.le_trans HC6.out.size (hFv b o none h).2.1)
              have HC11 := Lib.hid (HC9.out.trans' HCe.out (fun i hi e => by have e : i = q := e; have := HQ0.out; omega))
              have hon : w11.ownsRow w11.heap.size 29 4 (.slice none 0 0) 0 [] := World.ownsRow_nil _ _ _ _
              have HOn := Lib.hid hon
              clear hZ hO hC hz hRF hFv hRF11 hon
              go_wp2_with (at_builtin; go_loud (refine app_own elSaid rfl (.tmp 85) (.tmp 87) rfl w11.heap.size 0 (.slice none 0 0) [] rfl HOn.out [.int .i64 (N : Nat), .slice Fv N capF, .bool bb, .slice Ev i capE] rfl (by simp [Value.oneCell']) _ rfl rfl (by unfold maxLen; omega) (by omega) (Nat.le_refl _) ?_); intro v12 w12 hO12 hC12 hb12; have HO12 := Lib.hid hO12; have HC12 := Lib.hid hC12; clear hO12 hC12 hb12)
              obtain ⟨g12, cap12, rfl⟩ := own_slice HO12.out (by
                intro e
                have := HO12.out
                rw [e] at this
                rcases this.2 with ⟨_, h⟩ | ⟨_, _, _, h, _⟩
                · cases h
                · cases h)
              go_roundw
              case rel =>
                have hch : Ch S0 w11 w12 := HC12.out.mono (fun k hk h => by cases h)
                obtain ⟨A12, cp12, e12, hR12, _⟩ := own_rd HO12.out
                cases e12
                refine Or.inr ⟨by go_num, g12, cap12, Fv, capF, bb, Ev, i, capE, done, rfl, ?_, HRF.out.keep0 hch, HFw.out, ?_, HNd.out, ?_, HC11.out.trans hch⟩
                · have e : ([] : List Value) ++ [.int .i64 (N : Nat), .slice Fv N capF, .bool bb, .slice Ev i capE] = [.int .i64 ((does op (puts (fun _ => false, 0) xs) ys).2 : Nat), .slice Fv (does op (puts (fun _ => false, 0) xs) ys).2 capF, .bool bb, .slice Ev i capE] := by rw [HP0.out, HP.out, HN.out]; rfl
                  rw [← e]
                  exact hR12
                · rw [HP0.out, HP.out, HN.out]; exact HDl.out
                · intro y
                  rw [HP0.out, HP.out]
                  exact HMem.out y
              case measure => simp [intOf]
end Go.Proofs.Ytjifdcklmpibpaa
