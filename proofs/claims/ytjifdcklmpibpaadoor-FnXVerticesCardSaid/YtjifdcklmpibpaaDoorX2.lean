/- FnXVertices: the walk (printed by mkX2.py). -/
import Derived.Test.YtjifdcklmpibpaaDoorX1
import Derived.Test.YtjifdcklmpibpaaDoorT
import Derived.Deep.RegionHeld3
import Derived.Deep.CutBlock
namespace Go.Proofs.YtjifdcklmpibpaaDoor
open Go.RowKit
set_option linter.unusedVariables false
set_option linter.unusedSimpArgs false

theorem two_rows {B n1 n2 m1 m2 z z' : Nat} {wb w8 w9 : World} {u3 u4 v8 v9 : Value} {X1 X2 Y1 Y2 : List Value} (hR1 : wb.ownsRow B 3 1 u3 n1 X1) (hR2 : wb.ownsRow B 3 1 u4 n2 X2) (hap : ∀ g, u3.ownBlock = some g → u4.ownBlock ≠ some g)
    (hO8 : w8.ownsRow B 3 1 v8 m1 Y1) (hb8 : v8.ownBlock = u3.ownBlock ∨ v8.ownBlock = some z) (hz : wb.heap.size ≤ z) (hK9 : Ch (fun k => u4.ownBlock = some k) w8 w9) (hO9 : w9.ownsRow B 3 1 v9 m2 Y2) (hb9 : v9.ownBlock = u4.ownBlock ∨ v9.ownBlock = some z') (hz' : w8.heap.size ≤ z') :
    w9.ownsRow B 3 1 v8 m1 Y1 ∧ (∀ g, v8.ownBlock = some g → v9.ownBlock ≠ some g) := by
  have h84 : ∀ g, v8.ownBlock = some g → u4.ownBlock ≠ some g := fun g hg e => by
    have h2 := own_lt hR2 g e
    rcases hb8 with h | h
    · rw [h] at hg; exact hap g hg e
    · rw [h] at hg; have := Option.some.inj hg; omega
  refine ⟨own_keepS hO8 hK9 (fun g hg e => h84 g hg e), fun g hg e => ?_⟩
  have h8 := own_lt hO8 g hg
  rcases hb9 with h | h
  · rw [h] at e; exact h84 g hg e
  · rw [h] at e; have := Option.some.inj e; omega
theorem ch_rows {w wb w8 w9 : World} {n1 n2 B : Nat} {u3 u4 : Value} {X1 X2 : List Value} (hk : Ch S0 w wb) (hR1 : wb.ownsRow w.heap.size 3 1 u3 n1 X1) (hR2 : wb.ownsRow w.heap.size 3 1 u4 n2 X2) (h8 : Ch (fun k => u3.ownBlock = some k) wb w8) (h9 : Ch (fun k => u4.ownBlock = some k) w8 w9) : Ch S0 w w9 :=
  (hk.trans' h8 (fun i hi h => absurd (own_lt hR1 i h).1 (by omega))).trans' h9 (fun i hi h => absurd (own_lt hR2 i h).1 (by omega))

set_option maxRecDepth 100000 in
set_option maxHeartbeats 8000000 in
theorem xvert_small (n cap : Nat) (A : Option Addr) (xs : List (Int × Int)) (B : Nat) (e1 e2 e3 : Addr) (w : World) (hn : xs.length = n) (hn1 : n ≤ 2147483647) (hA : Rd w A (ev xs)) (hE : Er w B e1 e2 e3) :
    Calls Tryd.prog 4 #[.slice A n cap] w fun r w' => r = .returned (.bool true) ∧ Ch S0 w w' := by
  have HA := Lib.hid hA
  have HE := Lib.hid hE
  have HN := Lib.hid hn
  have h31 : ¬ (2147483647 : Int) < (n : Nat) := by omega
  clear hA hE hn
  go_enter Tryd.func4, Tryd.ntmps4
  go_wp2_with fail
  refine (few_any n cap A xs _ HN.out hn1 HA.out).mono ?_
  rintro r w1 ⟨rfl, hC1⟩
  cases hf : few xs with
  | false =>
    have HC1 := Lib.hid hC1
    clear hC1 hf
    go_wp2_with fail
    go_ret
    exact ⟨rfl, HC1.out⟩
  | true =>
    have hf2 := hf
    simp only [few, Bool.and_eq_true, decide_eq_true_eq, List.all_eq_true] at hf2
    obtain ⟨⟨hr, hl0⟩, hl20⟩ := hf2
    rw [HN.out] at hl0 hl20
    have HRr := Lib.hid hr
    have HC1 := Lib.hid hC1
    clear hr hC1 hf
    go_wp2_with fail
    go_loopw [3, 4, 22] (fun v3 v4 vi wr => ∃ i : Nat, i ≤ n ∧ vi = .int .i64 i ∧ wr.ownsRow w.heap.size 3 1 v3 (endsL (xs.take i)).length (iv (endsL (xs.take i))) ∧ wr.ownsRow w.heap.size 3 1 v4 (edgeL (xs.take i)).length (iv (edgeL (xs.take i))) ∧ (∀ g, v3.ownBlock = some g → v4.ownBlock ≠ some g) ∧ Ch S0 w wr) (fun _ _ vi _ => n - (intOf vi).toNat)
    case atStart => exact ⟨0, by omega, rfl, World.ownsRow_nil _ _ _ _, World.ownsRow_nil _ _ _ _, fun g h => (by cases h), HC1.out⟩
    case round =>
      obtain ⟨i, hi, rfl, hO3, hO4, hap, hC⟩ := hrel
      have HO3 := Lib.hid hO3
      have HO4 := Lib.hid hO4
      have HAp := Lib.hid hap
      have HC := Lib.hid hC
      clear hO3 hO4 hap hC
      by_cases hlt : i < n
      · have hlti : (i : Int) < (n : Nat) := by omega
        obtain ⟨x, hx⟩ : ∃ x, xs[i]? = some x := ⟨xs[i]'(by have := HN.out; omega), by simp [HN.out, hlt]⟩
        obtain ⟨q, o, hAe, c0, c1⟩ := rd_edge (HA.out.keep0 HC.out) hx
        subst hAe
        have hin := HRr.out x (List.mem_of_getElem? hx)
        obtain ⟨x1, x2⟩ := x
        simp only [inR, decide_eq_true_eq] at hin
        simp only at c0 c1
        have hts : xs.take (i + 1) = xs.take i ++ [(x1, x2)] := by rw [List.take_add_one, hx]; rfl
        have HT := Lib.hid hts
        clear hts hx
        go_upto_block 1 with fail
        go_cut [3, 4, 22] from 22 to 53 (fun v3 v4 v22 wx => v22 = .int .i64 i ∧ wx.ownsRow w.heap.size 3 1 v3 (endsL (xs.take (i + 1))).length (iv (endsL (xs.take (i + 1)))) ∧ wx.ownsRow w.heap.size 3 1 v4 (edgeL (xs.take (i + 1))).length (iv (edgeL (xs.take (i + 1)))) ∧ (∀ g, v3.ownBlock = some g → v4.ownBlock ≠ some g) ∧ Ch S0 w wx)
        case rest =>
          obtain ⟨rfl, g1, g2, g3, g4⟩ := hcut
          have G1 := Lib.hid g1
          have G2 := Lib.hid g2
          have G3 := Lib.hid g3
          have G4 := Lib.hid g4
          clear g1 g2 g3 g4
          go_wp2_with fail
          go_roundw
          case rel => exact ⟨i + 1, by omega, by go_num, G1.out, G2.out, G3.out, G4.out⟩
          case measure => simp [intOf]; omega
        case first =>
        by_cases hxx : x1 = x2
        · have he1 : endsL (xs.take (i + 1)) = endsL (xs.take i) := by rw [HT.out, endsL_snoc]; simp [hxx]
          have he2 : edgeL (xs.take (i + 1)) = edgeL (xs.take i) := by rw [HT.out, edgeL_snoc]; simp [hxx]
          have HE1 := Lib.hid he1
          have HE2 := Lib.hid he2
          have hb1 : (x1 == x2) = true := by simp [hxx]
          have hb2 : (x1 != x2) = false := by simp [hxx]
          clear he1 he2 hxx hin
          go_wp2_with fail
          go_meet
          exact ⟨rfl, by rw [HE1.out]; exact own_keep0 HO3.out ((Ch.refl S0 wr).alloc _), by rw [HE2.out]; exact own_keep0 HO4.out ((Ch.refl S0 wr).alloc _), HAp.out, HC.out.alloc _⟩
        · have hb1 : (x1 == x2) = false := by simp [hxx]
          have hb2 : (x1 != x2) = true := by simp [hxx]
          have he1 : endsL (xs.take (i + 1)) = endsL (xs.take i) ++ [x1, x2] := by rw [HT.out, endsL_snoc]; simp [hxx]
          have he2 : edgeL (xs.take (i + 1)) = edgeL (xs.take i) ++ [code x1 x2] := by rw [HT.out, edgeL_snoc]; simp [hxx]
          have HE1 := Lib.hid he1
          have HE2 := Lib.hid he2
          obtain ⟨R1, hR1⟩ : ∃ R1, endsL (xs.take i) = R1 := ⟨_, rfl⟩
          obtain ⟨R2, hR2⟩ : ∃ R2, edgeL (xs.take i) = R2 := ⟨_, rfl⟩
          have hl1 := endsL_len (xs.take i)
          have hl2 := edgeL_len (xs.take i)
          rw [List.length_take] at hl1 hl2
          rw [hR1] at HO3 HE1 hl1
          rw [hR2] at HO4 HE2 hl2
          obtain ⟨n1, hn1'⟩ : ∃ n1, R1.length = n1 := ⟨_, rfl⟩
          obtain ⟨n2, hn2'⟩ : ∃ n2, R2.length = n2 := ⟨_, rfl⟩
          rw [hn1'] at HO3 hl1
          rw [hn2'] at HO4 hl2
          have HN1 := Lib.hid hn1'
          have HN2 := Lib.hid hn2'
          have h40 : n1 ≤ 1000 := by omega
          have h20 : n2 ≤ 1000 := by omega
          have HM11 : Hid (n1 + 2 ≤ maxLen) := Lib.hid (by unfold maxLen; omega)
          have HM12 : Hid ((n1 + 2) * 8 ≤ 140737488355328) := Lib.hid (by omega)
          have HM21 : Hid (n2 + 1 ≤ maxLen) := Lib.hid (by unfold maxLen; omega)
          have HM22 : Hid ((n2 + 1) * 8 ≤ 140737488355328) := Lib.hid (by omega)
          have HOne1 : Hid (∀ u ∈ [Value.int .i64 x1, .int .i64 x2], u.oneCell' = true) := Lib.hid (by simp [Value.oneCell'])
          have emn : (if x2 < x1 then x2 else x1) = min x1 x2 := by split <;> omega
          have emx : (if x1 < x2 then x2 else x1) = max x1 x2 := by split <;> omega
          have hcb : 0 ≤ min x1 x2 ∧ min x1 x2 ≤ 12 ∧ 0 ≤ max x1 x2 ∧ max x1 x2 ≤ 12 := by omega
          obtain ⟨mn, hmn0⟩ : ∃ mn, min x1 x2 = mn := ⟨_, rfl⟩
          obtain ⟨mx, hmx0⟩ : ∃ mx, max x1 x2 = mx := ⟨_, rfl⟩
          rw [hmn0, hmx0] at hcb
          rw [hmn0] at emn
          rw [hmx0] at emx
          obtain ⟨m1, m2, m3, m4⟩ := hcb
          have hcode : code x1 x2 = mn * 100 + mx := by unfold code; rw [hmn0, hmx0]
          rw [hcode] at HE2
          clear hR1 hR2 hn1' hn2' he1 he2 hxx hin hl1 hl2 hcode hmn0 hmx0
          go_upto_region 10 with fail
          obtain ⟨wb, hwb⟩ : ∃ wb, wr.alloc (.cells #[.int .i64 x1, .int .i64 x2] 24) = wb := ⟨_, rfl⟩
          rw [hwb]
          have hcb : Blk wb wr.heap.size #[.int .i64 x1, .int .i64 x2] := by rw [← hwb]; exact Blk.new _ _ _
          have s0 := hcb.cell 0
          have s1 := hcb.cell 1
          simp only [List.getElem?_toArray, List.getElem?_cons_zero, List.getElem?_cons_succ] at s0 s1
          have hkb : Ch S0 wr wb := by rw [← hwb]; exact (Ch.refl S0 wr).alloc _
          have hlb := hcb.lt
          have HCb := Lib.hid hcb
          have HR1 := Lib.hid (own_keep0 HO3.out hkb)
          have HR2 := Lib.hid (own_keep0 HO4.out hkb)
          have HKb := Lib.hid (HC.out.trans hkb)
          have HCz := Lib.hid (HC.out.trans hkb).size
          have HAb1 : Hid (∀ b, u3.ownBlock = some b → b = wr.heap.size → False) := Lib.hid (fun b h e => by have := (own_lt HO3.out b h).2; omega)
          have HAb2 : Hid (∀ b, u4.ownBlock = some b → b = wr.heap.size → False) := Lib.hid (fun b h e => by have := (own_lt HO4.out b h).2; omega)
          obtain ⟨cc, hcc⟩ : ∃ cc, mn * 100 + mx = cc := ⟨_, rfl⟩
          rw [hcc] at HE2
          have HOne2 : Hid (∀ u ∈ [Value.int .i64 cc], u.oneCell' = true) := Lib.hid (by simp [Value.oneCell'])
          have wr1 : IntKind.i64.wrap (mn * 100) = mn * 100 := IntWalk.i64_in _ (by omega)
          have wr3 : IntKind.i64.wrap cc = cc := IntWalk.i64_in _ (by omega)
          have wr2 : IntKind.i64.wrap (mn * 100 + mx) = cc := by rw [← hcc]; exact IntWalk.i64_in _ (by omega)
          have Ka := Lib.hid (((Ch.refl S0 wb).alloc (.cells #[.int .i64 x1, .int .i64 x2] 3)).drew)
          have Kb := Lib.hid (((Ch.refl S0 wb).alloc (.cells #[.int .i64 cc] 3)).drew)
          have Kc := Lib.hid ((((Ch.refl S0 wb).alloc (.cells #[.int .i64 x1, .int .i64 x2] 3)).alloc (.cells #[.int .i64 cc] 3)).drew)
          have Kd := Lib.hid ((((Ch.refl S0 wb).alloc (.cells #[.int .i64 cc] 3)).alloc (.cells #[.int .i64 x1, .int .i64 x2] 3)).drew)
          have RA1 := Lib.hid ((Rd.new wb [.int .i64 x1, .int .i64 x2] 3).keep0 (Ch.refl S0 _).drew)
          have RB2 := Lib.hid ((Rd.new wb [.int .i64 cc] 3).keep0 (Ch.refl S0 _).drew)
          have RC1 := Lib.hid ((Rd.new wb [.int .i64 x1, .int .i64 x2] 3).keep0 ((Ch.refl S0 _).alloc (.cells #[.int .i64 cc] 3)).drew)
          have RC2 : Hid (Rd ((wb.alloc (.cells #[.int .i64 x1, .int .i64 x2] 3)).alloc (.cells #[.int .i64 cc] 3)).drew (some ⟨wb.heap.size + 1, 0, none⟩) [.int .i64 cc]) := Lib.hid ((Rd.new' (w := wb.alloc (.cells #[.int .i64 x1, .int .i64 x2] 3)) [.int .i64 cc] (T := 3) (by simp)).keep0 (Ch.refl S0 _).drew)
          have RD2 := Lib.hid ((Rd.new wb [.int .i64 cc] 3).keep0 ((Ch.refl S0 _).alloc (.cells #[.int .i64 x1, .int .i64 x2] 3)).drew)
          have RD1 : Hid (Rd ((wb.alloc (.cells #[.int .i64 cc] 3)).alloc (.cells #[.int .i64 x1, .int .i64 x2] 3)).drew (some ⟨wb.heap.size + 1, 0, none⟩) [.int .i64 x1, .int .i64 x2]) := Lib.hid ((Rd.new' (w := wb.alloc (.cells #[.int .i64 cc] 3)) [.int .i64 x1, .int .i64 x2] (T := 3) (by simp)).keep0 (Ch.refl S0 _).drew)
          have Za := Lib.hid (Nat.le_trans HCz.out Ka.out.size)
          have Zb := Lib.hid (Nat.le_trans HCz.out Kb.out.size)
          have Zc := Lib.hid (Nat.le_trans HCz.out Kc.out.size)
          have Zd := Lib.hid (Nat.le_trans HCz.out Kd.out.size)
          clear hwb hcb hkb
          go_region_held3 (fun w' => w'.cell? ⟨wr.heap.size, 0, none⟩ = some (.int .i64 x1) ∧ w'.cell? ⟨wr.heap.size, 1, none⟩ = some (.int .i64 x2))
            (first | ((try dsimp only); (repeat' apply And.intro) <;> assumption) | (go_keep; done))
            (first | (have _tk := tk2; refine step_all elInt rfl (.tmp 31) (.tmp 36) rfl w.heap.size n1 u3 (iv R1) (by rfl) (own_keep0 HQ8.out ((Ch.refl S0 w8).alloc (.cells #[.int .i64 x1, .int .i64 x2] 3))) (w8.heap.size) 0 2 2 [.int .i64 x1, .int .i64 x2] rfl HOne1.out (by rfl) (Rd.new w8 [.int .i64 x1, .int .i64 x2] 3) HM11.out HM12.out (Nat.le_trans HT8.out ((Ch.refl S0 w8).alloc (.cells #[.int .i64 x1, .int .i64 x2] 3)).size) ?_; intro v9 w9 hO9 hC9 hb9 _; have HO9 := Lib.hid hO9; have HB9 := Lib.hid hb9; have HZ9 := Lib.hid ((Ch.refl S0 w8).alloc (.cells #[.int .i64 x1, .int .i64 x2] 3)).size; have HK9 := Lib.hid ((((Ch.refl S0 w8).alloc (.cells #[.int .i64 x1, .int .i64 x2] 3)).mono (fun _ _ h => h.elim)).trans (S := fun k => u3.ownBlock = some k) hC9); have hcb9 := HCb8.out.keep HK9.out (fun e => HAb1.out _ e rfl); have s0 := hcb9.cell 0; have s1 := hcb9.cell 1; simp only [List.getElem?_toArray, List.getElem?_cons_zero, List.getElem?_cons_succ] at s0 s1; clear hO9 hC9 hb9 hcb9) | (have _tk := tk1; refine step_all elInt rfl (.tmp 38) (.tmp 51) rfl w.heap.size n2 u4 (iv R2) (by rfl) (own_keep0 HQ8.out ((Ch.refl S0 w8).alloc (.cells #[.int .i64 cc] 3))) (w8.heap.size) 0 1 1 [.int .i64 cc] rfl HOne2.out (by rfl) (Rd.new w8 [.int .i64 cc] 3) HM21.out HM22.out (Nat.le_trans HT8.out ((Ch.refl S0 w8).alloc (.cells #[.int .i64 cc] 3)).size) ?_; intro v9 w9 hO9 hC9 hb9 _; have HO9 := Lib.hid hO9; have HB9 := Lib.hid hb9; have HZ9 := Lib.hid ((Ch.refl S0 w8).alloc (.cells #[.int .i64 cc] 3)).size; have HK9 := Lib.hid ((((Ch.refl S0 w8).alloc (.cells #[.int .i64 cc] 3)).mono (fun _ _ h => h.elim)).trans (S := fun k => u4.ownBlock = some k) hC9); have hcb9 := HCb8.out.keep HK9.out (fun e => HAb2.out _ e rfl); have s0 := hcb9.cell 0; have s1 := hcb9.cell 1; simp only [List.getElem?_toArray, List.getElem?_cons_zero, List.getElem?_cons_succ] at s0 s1; clear hO9 hC9 hb9 hcb9) | (have _tk := tk2; refine step_all elInt rfl (.tmp 31) (.tmp 36) rfl w.heap.size n1 u3 (iv R1) (by rfl) (HQ8.out) (wb.heap.size) 0 2 2 [.int .i64 x1, .int .i64 x2] rfl HOne1.out (by rfl) (HE8.out) HM11.out HM12.out (HT8.out) ?_; intro v9 w9 hO9 hC9 hb9 _; have HO9 := Lib.hid hO9; have HB9 := Lib.hid hb9; have HZ9 := Lib.hid (Ch.refl S0 w8).size; have HK9 := Lib.hid (((Ch.refl S0 w8).mono (fun _ _ h => h.elim)).trans (S := fun k => u3.ownBlock = some k) hC9); have hcb9 := HCb8.out.keep HK9.out (fun e => HAb1.out _ e rfl); have s0 := hcb9.cell 0; have s1 := hcb9.cell 1; simp only [List.getElem?_toArray, List.getElem?_cons_zero, List.getElem?_cons_succ] at s0 s1; clear hO9 hC9 hb9 hcb9) | (have _tk := tk2; refine step_all elInt rfl (.tmp 31) (.tmp 36) rfl w.heap.size n1 u3 (iv R1) (by rfl) (HQ8.out) (wb.heap.size + 1) 0 2 2 [.int .i64 x1, .int .i64 x2] rfl HOne1.out (by rfl) (HE8.out) HM11.out HM12.out (HT8.out) ?_; intro v9 w9 hO9 hC9 hb9 _; have HO9 := Lib.hid hO9; have HB9 := Lib.hid hb9; have HZ9 := Lib.hid (Ch.refl S0 w8).size; have HK9 := Lib.hid (((Ch.refl S0 w8).mono (fun _ _ h => h.elim)).trans (S := fun k => u3.ownBlock = some k) hC9); have hcb9 := HCb8.out.keep HK9.out (fun e => HAb1.out _ e rfl); have s0 := hcb9.cell 0; have s1 := hcb9.cell 1; simp only [List.getElem?_toArray, List.getElem?_cons_zero, List.getElem?_cons_succ] at s0 s1; clear hO9 hC9 hb9 hcb9) | (have _tk := tk1; refine step_all elInt rfl (.tmp 38) (.tmp 51) rfl w.heap.size n2 u4 (iv R2) (by rfl) (HQ8.out) (wb.heap.size) 0 1 1 [.int .i64 cc] rfl HOne2.out (by rfl) (HE8.out) HM21.out HM22.out (HT8.out) ?_; intro v9 w9 hO9 hC9 hb9 _; have HO9 := Lib.hid hO9; have HB9 := Lib.hid hb9; have HZ9 := Lib.hid (Ch.refl S0 w8).size; have HK9 := Lib.hid (((Ch.refl S0 w8).mono (fun _ _ h => h.elim)).trans (S := fun k => u4.ownBlock = some k) hC9); have hcb9 := HCb8.out.keep HK9.out (fun e => HAb2.out _ e rfl); have s0 := hcb9.cell 0; have s1 := hcb9.cell 1; simp only [List.getElem?_toArray, List.getElem?_cons_zero, List.getElem?_cons_succ] at s0 s1; clear hO9 hC9 hb9 hcb9) | (have _tk := tk1; refine step_all elInt rfl (.tmp 38) (.tmp 51) rfl w.heap.size n2 u4 (iv R2) (by rfl) (HQ8.out) (wb.heap.size + 1) 0 1 1 [.int .i64 cc] rfl HOne2.out (by rfl) (HE8.out) HM21.out HM22.out (HT8.out) ?_; intro v9 w9 hO9 hC9 hb9 _; have HO9 := Lib.hid hO9; have HB9 := Lib.hid hb9; have HZ9 := Lib.hid (Ch.refl S0 w8).size; have HK9 := Lib.hid (((Ch.refl S0 w8).mono (fun _ _ h => h.elim)).trans (S := fun k => u4.ownBlock = some k) hC9); have hcb9 := HCb8.out.keep HK9.out (fun e => HAb2.out _ e rfl); have s0 := hcb9.cell 0; have s1 := hcb9.cell 1; simp only [List.getElem?_toArray, List.getElem?_cons_zero, List.getElem?_cons_succ] at s0 s1; clear hO9 hC9 hb9 hcb9) | (refine step_all elInt rfl (.tmp 31) (.tmp 36) rfl w.heap.size n1 u3 (iv R1) (by rfl) (own_keep0 HR1.out Ka.out) (wb.heap.size) 0 2 2 [.int .i64 x1, .int .i64 x2] rfl HOne1.out (by rfl) (RA1.out) HM11.out HM12.out (Za.out) ?_; intro v8 w8 hO8 hC8 hb8 _; have HO8 := Lib.hid hO8; have HB8 := Lib.hid hb8; have HZ8 := Lib.hid Ka.out.size; have HK8 := Lib.hid ((Ka.out.mono (fun _ _ h => h.elim)).trans (S := fun k => u3.ownBlock = some k) hC8); have HQ8 := Lib.hid (own_keepS HR2.out (((Ka.out.mono (fun _ _ h => h.elim)).trans (S := fun k => u3.ownBlock = some k) hC8)) (fun g hg e => HAp.out g e hg)); have HT8 := Lib.hid (Nat.le_trans Za.out hC8.size); have hcb8 := HCb.out.keep HK8.out (fun e => HAb1.out _ e rfl); have s0 := hcb8.cell 0; have s1 := hcb8.cell 1; simp only [List.getElem?_toArray, List.getElem?_cons_zero, List.getElem?_cons_succ] at s0 s1; have HCb8 := Lib.hid hcb8; have tk1 : True := trivial; clear hO8 hC8 hb8 hcb8) | (refine step_all elInt rfl (.tmp 38) (.tmp 51) rfl w.heap.size n2 u4 (iv R2) (by rfl) (own_keep0 HR2.out Kb.out) (wb.heap.size) 0 1 1 [.int .i64 cc] rfl HOne2.out (by rfl) (RB2.out) HM21.out HM22.out (Zb.out) ?_; intro v8 w8 hO8 hC8 hb8 _; have HO8 := Lib.hid hO8; have HB8 := Lib.hid hb8; have HZ8 := Lib.hid Kb.out.size; have HK8 := Lib.hid ((Kb.out.mono (fun _ _ h => h.elim)).trans (S := fun k => u4.ownBlock = some k) hC8); have HQ8 := Lib.hid (own_keepS HR1.out (((Kb.out.mono (fun _ _ h => h.elim)).trans (S := fun k => u4.ownBlock = some k) hC8)) (fun g hg e => HAp.out g hg e)); have HT8 := Lib.hid (Nat.le_trans Zb.out hC8.size); have hcb8 := HCb.out.keep HK8.out (fun e => HAb2.out _ e rfl); have s0 := hcb8.cell 0; have s1 := hcb8.cell 1; simp only [List.getElem?_toArray, List.getElem?_cons_zero, List.getElem?_cons_succ] at s0 s1; have HCb8 := Lib.hid hcb8; have tk2 : True := trivial; clear hO8 hC8 hb8 hcb8) | (refine step_all elInt rfl (.tmp 31) (.tmp 36) rfl w.heap.size n1 u3 (iv R1) (by rfl) (own_keep0 HR1.out Kc.out) (wb.heap.size) 0 2 2 [.int .i64 x1, .int .i64 x2] rfl HOne1.out (by rfl) (RC1.out) HM11.out HM12.out (Zc.out) ?_; intro v8 w8 hO8 hC8 hb8 _; have HO8 := Lib.hid hO8; have HB8 := Lib.hid hb8; have HZ8 := Lib.hid Kc.out.size; have HK8 := Lib.hid ((Kc.out.mono (fun _ _ h => h.elim)).trans (S := fun k => u3.ownBlock = some k) hC8); have HQ8 := Lib.hid (own_keepS HR2.out (((Kc.out.mono (fun _ _ h => h.elim)).trans (S := fun k => u3.ownBlock = some k) hC8)) (fun g hg e => HAp.out g e hg)); have HT8 := Lib.hid (Nat.le_trans Zc.out hC8.size); have HE8 := Lib.hid (RC2.out.keep hC8 (fun b o e h => absurd (own_lt HR1.out b h).2 (by cases e; omega))); have hcb8 := HCb.out.keep HK8.out (fun e => HAb1.out _ e rfl); have s0 := hcb8.cell 0; have s1 := hcb8.cell 1; simp only [List.getElem?_toArray, List.getElem?_cons_zero, List.getElem?_cons_succ] at s0 s1; have HCb8 := Lib.hid hcb8; have tk1 : True := trivial; clear hO8 hC8 hb8 hcb8) | (refine step_all elInt rfl (.tmp 38) (.tmp 51) rfl w.heap.size n2 u4 (iv R2) (by rfl) (own_keep0 HR2.out Kc.out) (wb.heap.size + 1) 0 1 1 [.int .i64 cc] rfl HOne2.out (by rfl) (RC2.out) HM21.out HM22.out (Zc.out) ?_; intro v8 w8 hO8 hC8 hb8 _; have HO8 := Lib.hid hO8; have HB8 := Lib.hid hb8; have HZ8 := Lib.hid Kc.out.size; have HK8 := Lib.hid ((Kc.out.mono (fun _ _ h => h.elim)).trans (S := fun k => u4.ownBlock = some k) hC8); have HQ8 := Lib.hid (own_keepS HR1.out (((Kc.out.mono (fun _ _ h => h.elim)).trans (S := fun k => u4.ownBlock = some k) hC8)) (fun g hg e => HAp.out g hg e)); have HT8 := Lib.hid (Nat.le_trans Zc.out hC8.size); have HE8 := Lib.hid (RC1.out.keep hC8 (fun b o e h => absurd (own_lt HR2.out b h).2 (by cases e; omega))); have hcb8 := HCb.out.keep HK8.out (fun e => HAb2.out _ e rfl); have s0 := hcb8.cell 0; have s1 := hcb8.cell 1; simp only [List.getElem?_toArray, List.getElem?_cons_zero, List.getElem?_cons_succ] at s0 s1; have HCb8 := Lib.hid hcb8; have tk2 : True := trivial; clear hO8 hC8 hb8 hcb8) | (refine step_all elInt rfl (.tmp 31) (.tmp 36) rfl w.heap.size n1 u3 (iv R1) (by rfl) (own_keep0 HR1.out Kd.out) (wb.heap.size + 1) 0 2 2 [.int .i64 x1, .int .i64 x2] rfl HOne1.out (by rfl) (RD1.out) HM11.out HM12.out (Zd.out) ?_; intro v8 w8 hO8 hC8 hb8 _; have HO8 := Lib.hid hO8; have HB8 := Lib.hid hb8; have HZ8 := Lib.hid Kd.out.size; have HK8 := Lib.hid ((Kd.out.mono (fun _ _ h => h.elim)).trans (S := fun k => u3.ownBlock = some k) hC8); have HQ8 := Lib.hid (own_keepS HR2.out (((Kd.out.mono (fun _ _ h => h.elim)).trans (S := fun k => u3.ownBlock = some k) hC8)) (fun g hg e => HAp.out g e hg)); have HT8 := Lib.hid (Nat.le_trans Zd.out hC8.size); have HE8 := Lib.hid (RD2.out.keep hC8 (fun b o e h => absurd (own_lt HR1.out b h).2 (by cases e; omega))); have hcb8 := HCb.out.keep HK8.out (fun e => HAb1.out _ e rfl); have s0 := hcb8.cell 0; have s1 := hcb8.cell 1; simp only [List.getElem?_toArray, List.getElem?_cons_zero, List.getElem?_cons_succ] at s0 s1; have HCb8 := Lib.hid hcb8; have tk1 : True := trivial; clear hO8 hC8 hb8 hcb8) | (refine step_all elInt rfl (.tmp 38) (.tmp 51) rfl w.heap.size n2 u4 (iv R2) (by rfl) (own_keep0 HR2.out Kd.out) (wb.heap.size) 0 1 1 [.int .i64 cc] rfl HOne2.out (by rfl) (RD2.out) HM21.out HM22.out (Zd.out) ?_; intro v8 w8 hO8 hC8 hb8 _; have HO8 := Lib.hid hO8; have HB8 := Lib.hid hb8; have HZ8 := Lib.hid Kd.out.size; have HK8 := Lib.hid ((Kd.out.mono (fun _ _ h => h.elim)).trans (S := fun k => u4.ownBlock = some k) hC8); have HQ8 := Lib.hid (own_keepS HR1.out (((Kd.out.mono (fun _ _ h => h.elim)).trans (S := fun k => u4.ownBlock = some k) hC8)) (fun g hg e => HAp.out g hg e)); have HT8 := Lib.hid (Nat.le_trans Zd.out hC8.size); have HE8 := Lib.hid (RD1.out.keep hC8 (fun b o e h => absurd (own_lt HR2.out b h).2 (by cases e; omega))); have hcb8 := HCb.out.keep HK8.out (fun e => HAb2.out _ e rfl); have s0 := hcb8.cell 0; have s1 := hcb8.cell 1; simp only [List.getElem?_toArray, List.getElem?_cons_zero, List.getElem?_cons_succ] at s0 s1; have HCb8 := Lib.hid hcb8; have tk2 : True := trivial; clear hO8 hC8 hb8 hcb8))
          all_goals
            go_wp2_with fail
            go_meet
            have q1 : (R1 ++ [x1, x2]).length = n1 + 2 := by simp [HN1.out]
            have q2 : (R2 ++ [cc]).length = n2 + 1 := by simp [HN2.out]
            have q3 : iv (R1 ++ [x1, x2]) = iv R1 ++ [.int .i64 x1, .int .i64 x2] := by simp [iv]
            have q4 : iv (R2 ++ [cc]) = iv R2 ++ [.int .i64 cc] := by simp [iv]
            rw [HE1.out, HE2.out, q1, q2, q3, q4]
            first
              | (have _tk := tk1; obtain ⟨t1, t2⟩ := two_rows HR1.out HR2.out HAp.out HO8.out HB8.out HZ8.out HK9.out HO9.out HB9.out HZ9.out; exact ⟨rfl, t1, HO9.out, t2, ch_rows (B := 0) HKb.out HR1.out HR2.out HK8.out HK9.out⟩)
              | (have _tk := tk2; obtain ⟨t1, t2⟩ := two_rows HR2.out HR1.out (fun g hg e => HAp.out g e hg) HO8.out HB8.out HZ8.out HK9.out HO9.out HB9.out HZ9.out; exact ⟨rfl, HO9.out, t1, fun g hg e => t2 g e hg, ch_rows (B := 0) HKb.out HR2.out HR1.out HK8.out HK9.out⟩)
      · have hin : ¬ (i : Int) < (n : Nat) := by omega
        have hie : i = n := by omega
        subst hie
        have hO3 := HO3.out
        have hO4 := HO4.out
        rw [List.take_of_length_le (by rw [HN.out]; exact Nat.le_refl _)] at hO3 hO4
        have hxi := XI.nil.all xs (fun x hx => by have := HRr.out x hx; simp only [inR, decide_eq_true_eq] at this; exact ⟨⟨this.1, this.2.1⟩, ⟨this.2.2.1, this.2.2.2⟩⟩)
        have hl1 := endsL_len xs
        have hl2 := edgeL_len xs
        rw [HN.out] at hl1 hl2
        obtain ⟨E1, hE1⟩ : ∃ E1, endsL xs = E1 := ⟨_, rfl⟩
        obtain ⟨E2, hE2⟩ : ∃ E2, edgeL xs = E2 := ⟨_, rfl⟩
        obtain ⟨G, hG⟩ : ∃ G, PG.nil.adds xs = G := ⟨_, rfl⟩
        rw [hE1] at hO3 hl1 hxi
        rw [hE2] at hO4 hl2 hxi
        rw [hG] at hxi
        obtain ⟨A3, cap3, rfl, hR3, _⟩ := own_rd hO3
        obtain ⟨A4, cap4, rfl, hR4, _⟩ := own_rd hO4
        have HXi := Lib.hid hxi
        have HG := Lib.hid hG
        have HR3 := Lib.hid hR3
        have HR4 := Lib.hid hR4
        obtain ⟨m1, hm1⟩ : ∃ m1, E1.length = m1 := ⟨_, rfl⟩
        obtain ⟨m2, hm2⟩ : ∃ m2, E2.length = m2 := ⟨_, rfl⟩
        rw [hm1] at hl1 ⊢
        rw [hm2] at hl2 ⊢
        have HM1 := Lib.hid hm1
        have HM2 := Lib.hid hm2
        clear hO3 hO4 hR3 hR4 hxi hE1 hE2 hG hm1 hm2
        go_wp2_with fail
        refine (grrun_any i cap _ xs B e1 e2 e3 _ HN.out (by omega) (HA.out.keep0 HC.out) (HE.out.keep0 HC.out)).mono ?_
        rintro r w5 ⟨v5, rfl, hO5, hC5⟩
        rw [HG.out, HXi.out.nv, HXi.out.ne]
        obtain ⟨A5, cap5, rfl, _⟩ := own_rd hO5
        have HR35 := Lib.hid (HR3.out.keep0 hC5)
        have HR45 := Lib.hid (HR4.out.keep0 hC5)
        have HC5 := Lib.hid (HC.out.trans hC5)
        obtain ⟨N1, hN1⟩ : ∃ N1, (puts (fun _ => false, 0) E1).2 = N1 := ⟨_, rfl⟩
        obtain ⟨N2, hN2⟩ : ∃ N2, (puts (fun _ => false, 0) E2).2 = N2 := ⟨_, rfl⟩
        rw [hN1, hN2]
        have HN1 := Lib.hid hN1
        have HN2 := Lib.hid hN2
        clear hO5 hC5 hN1 hN2
        go_wp2_with fail
        refine (said_any none (some ⟨w5.heap.size, 0, none⟩) A3 0 0 1 m1 cap3 1 [] E1 _ (Or.inl rfl) rfl (by omega) (Rd.nil _ _) (Rd.new w5 [.int .i64 1, .slice A3 m1 cap3] 42) HM1.out (by omega) (HR35.out.keep0 ((Ch.refl S0 w5).alloc _))).mono ?_
        rintro r w6 ⟨F6, cf6, b6, ea6, en6, ec6, d6, rfl, _, _, _, _, hC6⟩
        have e6 : (does 1 (puts (fun _ => false, 0) []) E1).2 = N1 := HN1.out
        rw [e6]
        have hc6 := ((Ch.refl S0 w5).alloc (.cells #[.int .i64 1, .slice A3 m1 cap3] 42)).trans hC6
        have HR46 := Lib.hid (HR45.out.keep0 hc6)
        have HC6 := Lib.hid (HC5.out.trans hc6)
        clear hC6 hc6 e6
        go_wp2_with fail
        have hs6 : w6.heap.size < (w6.alloc (.cells #[.int .i64 (N1 : Nat), .slice F6 N1 cf6, .bool b6, .slice ea6 en6 ec6] 38)).heap.size := by simp
        have hb6 := Blk.new w6 #[.int .i64 (N1 : Nat), .slice F6 N1 cf6, .bool b6, .slice ea6 en6 ec6] 38
        obtain ⟨w7, hw7⟩ : ∃ w7, w6.alloc (.cells #[.int .i64 (N1 : Nat), .slice F6 N1 cf6, .bool b6, .slice ea6 en6 ec6] 38) = w7 := ⟨_, rfl⟩
        have hs7 : w6.heap.size + 1 = w7.heap.size := by rw [← hw7]; simp
        have hc7 : Ch S0 w6 w7 := by rw [← hw7]; exact (Ch.refl S0 w6).alloc _
        rw [hw7] at hb6 ⊢
        rw [hs7]
        have HR47 := Lib.hid (HR46.out.keep0 hc7)
        have HC7 := Lib.hid (HC6.out.trans hc7)
        have HB7 := Lib.hid hb6
        clear hs6 hb6 hw7 hs7 hc7
        refine (said_any none (some ⟨w7.heap.size, 0, none⟩) A4 0 0 1 m2 cap4 1 [] E2 _ (Or.inl rfl) rfl (by omega) (Rd.nil _ _) (Rd.new w7 [.int .i64 1, .slice A4 m2 cap4] 42) HM2.out (by omega) (HR47.out.keep0 ((Ch.refl S0 w7).alloc _))).mono ?_
        rintro r w8 ⟨F8, cf8, b8, ea8, en8, ec8, d8, rfl, _, _, _, _, hC8⟩
        have e8 : (does 1 (puts (fun _ => false, 0) []) E2).2 = N2 := HN2.out
        rw [e8]
        have hc8 := ((Ch.refl S0 w7).alloc (.cells #[.int .i64 1, .slice A4 m2 cap4] 42)).trans hC8
        have hb8 := HB7.out.keep hc8 (fun h => h)
        have s0 := hb8.cell 0
        have sl := hb8.lt
        simp only [List.getElem?_toArray, List.getElem?_cons_zero] at s0
        have HC8 := Lib.hid (HC7.out.trans hc8)
        have HB8 := Lib.hid hb8
        clear hC8 hc8 e8 hb8
        go_wp2_with fail
        obtain ⟨w9, hw9⟩ : ∃ w9, w8.alloc (.cells #[.int .i64 (N2 : Nat), .slice F8 N2 cf8, .bool b8, .slice ea8 en8 ec8] 38) = w9 := ⟨_, rfl⟩
        have hb9 : Blk w9 w8.heap.size #[.int .i64 (N2 : Nat), .slice F8 N2 cf8, .bool b8, .slice ea8 en8 ec8] := by rw [← hw9]; exact Blk.new _ _ _
        have hc9 : Ch S0 w8 w9 := by rw [← hw9]; exact (Ch.refl S0 w8).alloc _
        rw [hw9]
        have HB9 := Lib.hid hb9
        have HB89 := Lib.hid (HB8.out.keep hc9 (fun h => h))
        have HC9 := Lib.hid (HC8.out.trans hc9)
        clear hw9 hb9 hc9 s0 sl
        refine (awake_any B e1 e2 e3 _ (HE.out.keep0 HC9.out)).mono ?_
        rintro r w10 ⟨rfl, hC10⟩
        have hx0 := (HB89.out.keep hC10 (fun h => h)).cell 0
        have hy0 := (HB9.out.keep hC10 (fun h => h)).cell 0
        simp only [List.getElem?_toArray, List.getElem?_cons_zero] at hx0 hy0
        have HC10 := Lib.hid (HC9.out.trans hC10)
        have k1 : ((N1 : Int) == (N1 : Int)) = true := by simp
        have k2 : ((N2 : Int) == (N2 : Int)) = true := by simp
        clear hC10
        go_wp2_with fail
        go_ret
        exact ⟨rfl, HC10.out⟩
end Go.Proofs.YtjifdcklmpibpaaDoor
