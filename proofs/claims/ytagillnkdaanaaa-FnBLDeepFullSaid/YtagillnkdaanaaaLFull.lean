/- THE WALK of FnBLDeepFull. -/
import Derived.Test.YtagillnkdaanaaaLCleared
namespace Go.Proofs.Ytagillnkdaanaaa
open Go.RowKit
set_option linter.unusedVariables false
set_option linter.unusedSimpArgs false

/-- Behind j rounds: j words of ones. -/
def Ones (W wr : World) (j : Nat) (v : Value) : Prop := wr.ownsRow W.heap.size 39 1 v j (List.replicate j (.int .u64 18446744073709551615))

theorem ones_step {W wr : World} {j : Nat} {v : Value} (h : wr.ownsRow W.heap.size 39 1 v (j + 1) (List.replicate j (.int .u64 18446744073709551615) ++ [.int .u64 18446744073709551615])) : Ones W wr (j + 1) v := by
  unfold Ones
  rw [List.replicate_succ']
  exact h

theorem ones_win {W wr : World} {j : Nat} {v : Value} (h : Ones W wr j v) : ∃ A c, v = .slice A j c ∧ WIn wr A j (fun _ => 18446744073709551615) := by
  obtain ⟨h1, h2⟩ := h
  rcases h2 with ⟨rfl, h2⟩ | ⟨q, cap, cur, rfl, hb, hh, h3, h4, h5, h6⟩
  · subst h2; exact ⟨none, 0, rfl, fun i hi => by omega⟩
  · refine ⟨_, cap, rfl, fun i hi => ⟨Nat.lt_succ_self _, q, 0, rfl, ?_⟩⟩
    have := congrArg (fun l => l[i]?) h6
    simp only [Nat.mul_one, List.getElem?_take, hi, if_true, List.getElem?_replicate] at this
    simp only [World.cell?, hh, Nat.zero_add]
    simpa using this

theorem bladd_is (v vd : Value) (M K n nd : Nat) (g : Nat → Bool) (f : Nat → Int) (loc : Nat → Nat) (w : World) (h : IsF w v M K n g) (hd : Dat w vd nd f) (hl : IsLoc nd f M loc) (g' : Nat → Bool) (hr : addTo g loc K = g') :
    Calls Try.prog 10 #[v, vd] w fun e w' => ∃ v', e = .returned v' ∧ IsF w' v' M K n g' ∧ Ch S0 w w' := hr ▸ bladd_any v vd M K n nd g f loc w h hd hl
theorem full_or {M n : Nat} {x : Nat → Nat} : (fun k => fBits M n x k || decide (k < M)) = fun k => decide (k < M) := by
  funext k
  by_cases h : k < M
  · simp [h]
  · simp [h, fBits_off (show M ≤ k by omega)]

set_option maxRecDepth 100000 in
set_option maxHeartbeats 4000000 in
theorem full_small (m k : Nat) (P1 : Option Addr) (n1 c1 : Nat) (x1 : Nat → Nat) (P3 : Option Addr) (n3 c3 : Nat) (f3 : Nat → Int) (w : World) (hm : m < 65536) (hk : k < 256)
    (h1 : n1 ≤ 2147483647) (hA1 : WIn w P1 n1 x1) (h3 : n3 ≤ 2147483647) (hA3 : Raw w (.slice P3 n3 c3) n3 f3) :
    Calls Try.prog 5 #[.int .u16 m, .int .u8 k, .slice P1 n1 c1, .slice P3 n3 c3] w fun e w' => e = .returned (.bool true) ∧ Ch S0 w w' := by
  have X1 := Lib.hid hA1
  have X3 := Lib.hid hA3
  obtain ⟨M, hM⟩ : ∃ M, M = 1 + m % 700 := ⟨_, rfl⟩
  obtain ⟨K, hK⟩ : ∃ K, K = 1 + k % 8 := ⟨_, rfl⟩
  obtain ⟨n, hn⟩ : ∃ n, n = (M + 63) / 64 := ⟨_, rfl⟩
  have hb1 := fun w hA => blfilter_any m k n1 c1 P1 x1 w hm hk (by omega) hA
  have hn1000 : n ≤ 1000 := by omega
  have hb2 := fun w c A hA => blfilter_any m k n c A (fun _ => 18446744073709551615) w hm hk (by omega) hA
  have hones : fBits M n (fun _ => 18446744073709551615) = fun k => decide (k < M) := fBits_ones (fun _ _ => rfl) (by omega)
  rw [← hM, ← hK, ← hn] at hb1 hb2
  rw [hones] at hb2
  have F1 := Lib.hid hb1
  have F2 := Lib.hid hb2
  clear hA1 hA3 hb1 hM hK hn hb2 hones
  have HC0 := Lib.hid (Ch.refl S0 w)
  go_enter Try.func5, Try.ntmps5
  go_wp2_with fail
  refine (F1.out _ X1.out).mono ?_
  rintro e w1 ⟨v1, rfl, hV, hC⟩
  obtain ⟨A1, r1, rfl⟩ := hV.shape
  have hCC : Ch S0 w w1 := Ch.trans (by first | exact Ch.refl S0 _ | exact (Ch.refl S0 _).alloc _ | exact (Ch.refl S0 _).drew | exact ((Ch.refl S0 _).alloc _).alloc _ | exact ((Ch.refl S0 _).alloc _).drew | exact ((Ch.refl S0 _).drew).alloc _) hC
  have HC1 := Lib.hid (HC0.out.trans hCC)
  clear HC0
  have V1 := Lib.hid hV
  clear hV
  clear hC hCC
  go_wp2_with fail
  refine (bldata_any _ n3 f3 _ (X3.out.keep HC1.out)).mono ?_
  rintro e wD ⟨vd, nd3, rfl, hD, rfl⟩
  obtain ⟨BB3, d3, rfl⟩ := hD.shape
  have D3 := Lib.hid hD
  clear hD
  have hp := V1.out.pos
  have HP := Lib.hid hp
  have hs3 := D3.out.small
  obtain ⟨lc3, hl3⟩ := isLoc_ex nd3 f3 M hs3 (by omega) (by omega)
  have hlt3 : ∀ i, i < K → lc3 i < M := by obtain ⟨_, _, _, _, _, hl⟩ := hl3; exact fun i hi => (hl i (by omega)).1
  have HLT := Lib.hid hlt3
  have L3 := Lib.hid hl3
  clear hl3 hs3 hp hlt3
  go_wp2_with fail
  have Bp : Hid (Blk (w1.alloc (Obj.cells #[Value.int .u64 (M : Nat), .int .u64 (K : Nat), .slice A1 n r1] 27)) w1.heap.size #[Value.int .u64 (M : Nat), .int .u64 (K : Nat), .slice A1 n r1]) := Lib.hid (Blk.new _ _ _)
  have hCC : Ch S0 w1 (w1.alloc (Obj.cells #[Value.int .u64 (M : Nat), .int .u64 (K : Nat), .slice A1 n r1] 27)) := (Ch.refl _ _).alloc _
  have HC2 := Lib.hid (HC1.out.trans hCC)
  have Vx := Lib.hid (V1.out.keep hCC)
  clear V1
  have V1 := Vx
  clear Vx
  have Dx := Lib.hid (D3.out.keep hCC)
  clear D3
  have D3 := Dx
  clear Dx hCC HC1
  generalize w1.alloc (Obj.cells #[Value.int .u64 (M : Nat), .int .u64 (K : Nat), .slice A1 n r1] 27) = w2 at *
  generalize w1.heap.size = bp at *
  go_loopw [11, 12] (fun v kk wr => ∃ j : Nat, j ≤ n ∧ kk = .int .i64 j ∧ Ones w2 wr j v ∧ Ch S0 w2 wr) (fun _ kk _ => n - (intOf kk).toNat)
  case atStart => exact ⟨0, Nat.zero_le _, rfl, World.ownsRow_nil _ _ _ _, Ch.refl _ _⟩
  case round =>
    obtain ⟨j, hj, rfl, hO, hC⟩ := hrel
    have Bx := Bp.out.keep hC (fun h => h)
    have xp0 := Bx.cell 0
    have xp1 := Bx.cell 1
    have xp2 := Bx.cell 2
    simp only [List.getElem?_toArray, List.getElem?_cons_zero, List.getElem?_cons_succ] at xp0 xp1 xp2
    have BX := Lib.hid Bx
    clear Bx
    have hsz := hC.size
    have hlt0 := hO.lt
    have hOwn : wr.ownsRow w2.heap.size 39 1 u11 j (List.replicate j (.int .u64 18446744073709551615)) := hO
    have HLt := Lib.hid hlt0
    have HCr := Lib.hid hC
    clear hC hlt0
    by_cases hlt : j < n
    · have hlt1 : (j : Int) < (n : Nat) := by omega
      go_wp2_with (at_builtin; go_loud (refine app23 rfl _ _ rfl w2.heap.size j u11 _ rfl hOwn (.int .u64 18446744073709551615) rfl rfl (by omega) hsz ?_); intro q c w3 hown3 hgr3; have HO3 : Hid (Ones w2 w3 (j + 1) (.slice (some ⟨q, 0, none⟩) (j + 1 : Nat) c)) := Lib.hid (ones_step hown3); have HC3 : Hid (Ch S0 w2 w3) := Lib.hid (HCr.out.trans' (((Ch.refl _ _).alloc _).trans (Ch.ofGrown (S := fun k => w2.heap.size ≤ k) hgr3 fun k hk => (HLt.out k hk).1)) (fun i hi hs => absurd hs (by omega))); clear hown3 hgr3)
      go_roundw
      case rel => exact ⟨j + 1, by omega, by go_num, HO3.out, HC3.out⟩
      case measure => simp [intOf]; omega
    · obtain rfl : j = n := by omega
      have hlt1 : ¬ (j : Int) < (j : Nat) := by omega
      obtain ⟨Aq, cq, rfl, hw⟩ := ones_win hO
      have XW := Lib.hid hw
      have Vx := Lib.hid (V1.out.keep HCr.out)
      clear V1
      have V1 := Vx
      have Dx := Lib.hid (D3.out.keep HCr.out)
      clear D3
      have D3 := Dx
      have HC3 := Lib.hid (HC2.out.trans HCr.out)
      clear Vx Dx HC2 hO hw HLt hOwn HCr Bp
      have Bp := BX
      clear BX
      go_wp2_with fail
      refine (F2.out _ cq Aq XW.out).mono ?_
      rintro e w4 ⟨vg, rfl, hV, hC⟩
      obtain ⟨Ag, rg, rfl⟩ := hV.shape
      have hCC : Ch S0 wr w4 := Ch.trans (by first | exact Ch.refl S0 _ | exact (Ch.refl S0 _).alloc _ | exact (Ch.refl S0 _).drew | exact ((Ch.refl S0 _).alloc _).alloc _ | exact ((Ch.refl S0 _).alloc _).drew | exact ((Ch.refl S0 _).drew).alloc _) hC
      have HC4 := Lib.hid (HC3.out.trans hCC)
      clear HC3
      have Vx := Lib.hid (V1.out.keep hCC)
      clear V1
      have V1 := Vx
      clear Vx
      have Dx := Lib.hid (D3.out.keep hCC)
      clear D3
      have D3 := Dx
      clear Dx
      have Bx := Lib.hid (Bp.out.keep hCC (fun h => h))
      clear Bp
      have Bp := Bx
      clear Bx
      have Vg := Lib.hid hV
      clear hV
      clear hC hCC
      try clear xpz xp0 xp1 xp2
      have xpz := Bp.out.lt
      have xp0 := Bp.out.cell 0
      have xp1 := Bp.out.cell 1
      have xp2 := Bp.out.cell 2
      simp only [List.getElem?_toArray, List.getElem?_cons_zero, List.getElem?_cons_succ] at xp0 xp1 xp2
      go_wp2_with fail
      refine (blmerge_any _ _ M K j _ _ _ (V1.out.keep (by first | exact Ch.refl S0 _ | exact (Ch.refl S0 _).alloc _ | exact (Ch.refl S0 _).drew | exact ((Ch.refl S0 _).alloc _).alloc _ | exact ((Ch.refl S0 _).alloc _).drew | exact ((Ch.refl S0 _).drew).alloc _)) (Vg.out.keep (by first | exact Ch.refl S0 _ | exact (Ch.refl S0 _).alloc _ | exact (Ch.refl S0 _).drew | exact ((Ch.refl S0 _).alloc _).alloc _ | exact ((Ch.refl S0 _).alloc _).drew | exact ((Ch.refl S0 _).drew).alloc _))).mono ?_
      rintro e w5 ⟨vh0, rfl, hV, hC⟩
      obtain ⟨Ah0, rh0, rfl⟩ := hV.shape
      have hCC : Ch S0 w4 w5 := Ch.trans (by first | exact Ch.refl S0 _ | exact (Ch.refl S0 _).alloc _ | exact (Ch.refl S0 _).drew | exact ((Ch.refl S0 _).alloc _).alloc _ | exact ((Ch.refl S0 _).alloc _).drew | exact ((Ch.refl S0 _).drew).alloc _) hC
      have HC5 := Lib.hid (HC4.out.trans hCC)
      clear HC4
      have Vx := Lib.hid (V1.out.keep hCC)
      clear V1
      have V1 := Vx
      clear Vx
      have Vx := Lib.hid (Vg.out.keep hCC)
      clear Vg
      have Vg := Vx
      clear Vx
      have Dx := Lib.hid (D3.out.keep hCC)
      clear D3
      have D3 := Dx
      clear Dx
      have Bx := Lib.hid (Bp.out.keep hCC (fun h => h))
      clear Bp
      have Bp := Bx
      clear Bx
      have Bx0 := (Blk.new w4 #[Value.int .u64 (M : Nat), .int .u64 (K : Nat), .slice Ag j rg] 27)
      have Bq : Hid (Blk w5 (w4.heap.size) #[Value.int .u64 (M : Nat), .int .u64 (K : Nat), .slice Ag j rg]) := Lib.hid (Blk.keep (S := S0) (by simpa using Bx0) hC (fun h => h))
      clear Bx0
      have Vh0 := Lib.hid hV
      clear hV
      clear hC hCC
      try clear xpz xp0 xp1 xp2
      have xpz := Bp.out.lt
      have xp0 := Bp.out.cell 0
      have xp1 := Bp.out.cell 1
      have xp2 := Bp.out.cell 2
      simp only [List.getElem?_toArray, List.getElem?_cons_zero, List.getElem?_cons_succ] at xp0 xp1 xp2
      try clear xqz xq0 xq1 xq2
      have xqz := Bq.out.lt
      have xq0 := Bq.out.cell 0
      have xq1 := Bq.out.cell 1
      have xq2 := Bq.out.cell 2
      simp only [List.getElem?_toArray, List.getElem?_cons_zero, List.getElem?_cons_succ] at xq0 xq1 xq2
      have Vh : Hid (IsF w5 (.agg #[.int .u64 (M : Nat), .int .u64 (K : Nat), .slice Ah0 j rh0]) M K j (fun k => decide (k < M))) := Lib.hid (full_or ▸ Vh0.out)
      clear Vh0
      go_wp2_with fail
      have Br : Hid (Blk (w5.alloc (Obj.cells #[Value.int .u64 (M : Nat), .int .u64 (K : Nat), .slice Ah0 j rh0] 27)) w5.heap.size #[Value.int .u64 (M : Nat), .int .u64 (K : Nat), .slice Ah0 j rh0]) := Lib.hid (Blk.new _ _ _)
      have hCC : Ch S0 w5 (w5.alloc (Obj.cells #[Value.int .u64 (M : Nat), .int .u64 (K : Nat), .slice Ah0 j rh0] 27)) := (Ch.refl _ _).alloc _
      have HC6 := Lib.hid (HC5.out.trans hCC)
      clear HC5
      have Vx := Lib.hid (V1.out.keep hCC)
      clear V1
      have V1 := Vx
      clear Vx
      have Vx := Lib.hid (Vg.out.keep hCC)
      clear Vg
      have Vg := Vx
      clear Vx
      have Vx := Lib.hid (Vh.out.keep hCC)
      clear Vh
      have Vh := Vx
      clear Vx
      have Dx := Lib.hid (D3.out.keep hCC)
      clear D3
      have D3 := Dx
      clear Dx
      have Bx := Lib.hid (Bp.out.keep hCC (fun h => h))
      clear Bp
      have Bp := Bx
      clear Bx
      try clear xpz xp0 xp1 xp2
      have Bx := Lib.hid (Bq.out.keep hCC (fun h => h))
      clear Bq
      have Bq := Bx
      clear Bx
      try clear xqz xq0 xq1 xq2
      clear hCC
      generalize w5.alloc (Obj.cells #[Value.int .u64 (M : Nat), .int .u64 (K : Nat), .slice Ah0 j rh0] 27) = w6 at *
      generalize w5.heap.size = br at *
      have xpz := Bp.out.lt
      have xp0 := Bp.out.cell 0
      have xp1 := Bp.out.cell 1
      have xp2 := Bp.out.cell 2
      simp only [List.getElem?_toArray, List.getElem?_cons_zero, List.getElem?_cons_succ] at xp0 xp1 xp2
      have xqz := Bq.out.lt
      have xq0 := Bq.out.cell 0
      have xq1 := Bq.out.cell 1
      have xq2 := Bq.out.cell 2
      simp only [List.getElem?_toArray, List.getElem?_cons_zero, List.getElem?_cons_succ] at xq0 xq1 xq2
      have xrz := Br.out.lt
      have xr0 := Br.out.cell 0
      have xr1 := Br.out.cell 1
      have xr2 := Br.out.cell 2
      simp only [List.getElem?_toArray, List.getElem?_cons_zero, List.getElem?_cons_succ] at xr0 xr1 xr2
      go_wp2_with fail
      go_region_held3 (fun w' => w'.cell? ⟨w4.heap.size, 0, none⟩ = some (.int .u64 (M : Nat)) ∧ w'.cell? ⟨w4.heap.size, 1, none⟩ = some (.int .u64 (K : Nat)) ∧ w'.cell? ⟨w4.heap.size, 2, none⟩ = some (.slice Ag j rg) ∧ w'.cell? ⟨br, 0, none⟩ = some (.int .u64 (M : Nat)) ∧ w'.cell? ⟨br, 1, none⟩ = some (.int .u64 (K : Nat)) ∧ w'.cell? ⟨br, 2, none⟩ = some (.slice Ah0 j rh0))
        (first | ((try dsimp only); (repeat' apply And.intro) <;> assumption) | (go_keep; done))
        (first
          | (go_at_call 9
             (with_reducible refine (bltest_is _ _ M K j nd3 _ _ lc3 _ (Vg.out.keep (by first | exact Ch.refl S0 _ | exact (Ch.refl S0 _).alloc _ | exact (Ch.refl S0 _).drew | exact ((Ch.refl S0 _).alloc _).alloc _ | exact ((Ch.refl S0 _).alloc _).drew | exact ((Ch.refl S0 _).drew).alloc _)) (D3.out.keep (by first | exact Ch.refl S0 _ | exact (Ch.refl S0 _).alloc _ | exact (Ch.refl S0 _).drew | exact ((Ch.refl S0 _).alloc _).alloc _ | exact ((Ch.refl S0 _).alloc _).drew | exact ((Ch.refl S0 _).drew).alloc _)) L3.out true (found_full HLT.out)).mono ?_)
             rintro e w7 ⟨rfl, hC⟩
             have hCC : Ch S0 w6 w7 := Ch.trans (by first | exact Ch.refl S0 _ | exact (Ch.refl S0 _).alloc _ | exact (Ch.refl S0 _).drew | exact ((Ch.refl S0 _).alloc _).alloc _ | exact ((Ch.refl S0 _).alloc _).drew | exact ((Ch.refl S0 _).drew).alloc _) hC
             have HC7 := Lib.hid (HC6.out.trans hCC)
             clear HC6
             have Vx := Lib.hid (V1.out.keep hCC)
             clear V1
             have V1 := Vx
             clear Vx
             have Vx := Lib.hid (Vg.out.keep hCC)
             clear Vg
             have Vg := Vx
             clear Vx
             have Vx := Lib.hid (Vh.out.keep hCC)
             clear Vh
             have Vh := Vx
             clear Vx
             have Dx := Lib.hid (D3.out.keep hCC)
             clear D3
             have D3 := Dx
             clear Dx
             have Bx := Lib.hid (Bp.out.keep hCC (fun h => h))
             clear Bp
             have Bp := Bx
             clear Bx
             have Bx := Lib.hid (Bq.out.keep hCC (fun h => h))
             clear Bq
             have Bq := Bx
             clear Bx
             have Bx := Lib.hid (Br.out.keep hCC (fun h => h))
             clear Br
             have Br := Bx
             clear Bx
             clear hC hCC
             try clear xpz xp0 xp1 xp2
             have xpz := Bp.out.lt
             have xp0 := Bp.out.cell 0
             have xp1 := Bp.out.cell 1
             have xp2 := Bp.out.cell 2
             simp only [List.getElem?_toArray, List.getElem?_cons_zero, List.getElem?_cons_succ] at xp0 xp1 xp2
             try clear xqz xq0 xq1 xq2
             have xqz := Bq.out.lt
             have xq0 := Bq.out.cell 0
             have xq1 := Bq.out.cell 1
             have xq2 := Bq.out.cell 2
             simp only [List.getElem?_toArray, List.getElem?_cons_zero, List.getElem?_cons_succ] at xq0 xq1 xq2
             try clear xrz xr0 xr1 xr2
             have xrz := Br.out.lt
             have xr0 := Br.out.cell 0
             have xr1 := Br.out.cell 1
             have xr2 := Br.out.cell 2
             simp only [List.getElem?_toArray, List.getElem?_cons_zero, List.getElem?_cons_succ] at xr0 xr1 xr2)
          | (go_at_call 9
             (with_reducible refine (bltest_is _ _ M K j nd3 _ _ lc3 _ (Vh.out.keep (by first | exact Ch.refl S0 _ | exact (Ch.refl S0 _).alloc _ | exact (Ch.refl S0 _).drew | exact ((Ch.refl S0 _).alloc _).alloc _ | exact ((Ch.refl S0 _).alloc _).drew | exact ((Ch.refl S0 _).drew).alloc _)) (D3.out.keep (by first | exact Ch.refl S0 _ | exact (Ch.refl S0 _).alloc _ | exact (Ch.refl S0 _).drew | exact ((Ch.refl S0 _).alloc _).alloc _ | exact ((Ch.refl S0 _).alloc _).drew | exact ((Ch.refl S0 _).drew).alloc _)) L3.out true (found_full HLT.out)).mono ?_)
             rintro e w8 ⟨rfl, hC⟩
             have hCC : Ch S0 w7 w8 := Ch.trans (by first | exact Ch.refl S0 _ | exact (Ch.refl S0 _).alloc _ | exact (Ch.refl S0 _).drew | exact ((Ch.refl S0 _).alloc _).alloc _ | exact ((Ch.refl S0 _).alloc _).drew | exact ((Ch.refl S0 _).drew).alloc _) hC
             have HC8 := Lib.hid (HC7.out.trans hCC)
             clear HC7
             have Vx := Lib.hid (V1.out.keep hCC)
             clear V1
             have V1 := Vx
             clear Vx
             have Vx := Lib.hid (Vg.out.keep hCC)
             clear Vg
             have Vg := Vx
             clear Vx
             have Vx := Lib.hid (Vh.out.keep hCC)
             clear Vh
             have Vh := Vx
             clear Vx
             have Dx := Lib.hid (D3.out.keep hCC)
             clear D3
             have D3 := Dx
             clear Dx
             have Bx := Lib.hid (Bp.out.keep hCC (fun h => h))
             clear Bp
             have Bp := Bx
             clear Bx
             have Bx := Lib.hid (Bq.out.keep hCC (fun h => h))
             clear Bq
             have Bq := Bx
             clear Bx
             have Bx := Lib.hid (Br.out.keep hCC (fun h => h))
             clear Br
             have Br := Bx
             clear Bx
             clear hC hCC
             try clear xpz xp0 xp1 xp2
             have xpz := Bp.out.lt
             have xp0 := Bp.out.cell 0
             have xp1 := Bp.out.cell 1
             have xp2 := Bp.out.cell 2
             simp only [List.getElem?_toArray, List.getElem?_cons_zero, List.getElem?_cons_succ] at xp0 xp1 xp2
             try clear xqz xq0 xq1 xq2
             have xqz := Bq.out.lt
             have xq0 := Bq.out.cell 0
             have xq1 := Bq.out.cell 1
             have xq2 := Bq.out.cell 2
             simp only [List.getElem?_toArray, List.getElem?_cons_zero, List.getElem?_cons_succ] at xq0 xq1 xq2
             try clear xrz xr0 xr1 xr2
             have xrz := Br.out.lt
             have xr0 := Br.out.cell 0
             have xr1 := Br.out.cell 1
             have xr2 := Br.out.cell 2
             simp only [List.getElem?_toArray, List.getElem?_cons_zero, List.getElem?_cons_succ] at xr0 xr1 xr2)
          | (go_at_call 13
             (with_reducible refine (blequal_true _ _ M K j _ _ (Vh.out.keep (by first | exact Ch.refl S0 _ | exact (Ch.refl S0 _).alloc _ | exact (Ch.refl S0 _).drew | exact ((Ch.refl S0 _).alloc _).alloc _ | exact ((Ch.refl S0 _).alloc _).drew | exact ((Ch.refl S0 _).drew).alloc _)) (Vg.out.keep (by first | exact Ch.refl S0 _ | exact (Ch.refl S0 _).alloc _ | exact (Ch.refl S0 _).drew | exact ((Ch.refl S0 _).alloc _).alloc _ | exact ((Ch.refl S0 _).alloc _).drew | exact ((Ch.refl S0 _).drew).alloc _))).mono ?_)
             rintro e w9 ⟨rfl, hC⟩
             have hCC : Ch S0 w8 w9 := Ch.trans (by first | exact Ch.refl S0 _ | exact (Ch.refl S0 _).alloc _ | exact (Ch.refl S0 _).drew | exact ((Ch.refl S0 _).alloc _).alloc _ | exact ((Ch.refl S0 _).alloc _).drew | exact ((Ch.refl S0 _).drew).alloc _) hC
             have HC9 := Lib.hid (HC8.out.trans hCC)
             clear HC8
             have Vx := Lib.hid (V1.out.keep hCC)
             clear V1
             have V1 := Vx
             clear Vx
             have Vx := Lib.hid (Vg.out.keep hCC)
             clear Vg
             have Vg := Vx
             clear Vx
             have Vx := Lib.hid (Vh.out.keep hCC)
             clear Vh
             have Vh := Vx
             clear Vx
             have Dx := Lib.hid (D3.out.keep hCC)
             clear D3
             have D3 := Dx
             clear Dx
             have Bx := Lib.hid (Bp.out.keep hCC (fun h => h))
             clear Bp
             have Bp := Bx
             clear Bx
             have Bx := Lib.hid (Bq.out.keep hCC (fun h => h))
             clear Bq
             have Bq := Bx
             clear Bx
             have Bx := Lib.hid (Br.out.keep hCC (fun h => h))
             clear Br
             have Br := Bx
             clear Bx
             clear hC hCC
             try clear xpz xp0 xp1 xp2
             have xpz := Bp.out.lt
             have xp0 := Bp.out.cell 0
             have xp1 := Bp.out.cell 1
             have xp2 := Bp.out.cell 2
             simp only [List.getElem?_toArray, List.getElem?_cons_zero, List.getElem?_cons_succ] at xp0 xp1 xp2
             try clear xqz xq0 xq1 xq2
             have xqz := Bq.out.lt
             have xq0 := Bq.out.cell 0
             have xq1 := Bq.out.cell 1
             have xq2 := Bq.out.cell 2
             simp only [List.getElem?_toArray, List.getElem?_cons_zero, List.getElem?_cons_succ] at xq0 xq1 xq2
             try clear xrz xr0 xr1 xr2
             have xrz := Br.out.lt
             have xr0 := Br.out.cell 0
             have xr1 := Br.out.cell 1
             have xr2 := Br.out.cell 2
             simp only [List.getElem?_toArray, List.getElem?_cons_zero, List.getElem?_cons_succ] at xr0 xr1 xr2)
          | (go_at_call 10
             (with_reducible refine (bladd_is _ _ M K j nd3 _ _ lc3 _ (Vg.out.keep (by first | exact Ch.refl S0 _ | exact (Ch.refl S0 _).alloc _ | exact (Ch.refl S0 _).drew | exact ((Ch.refl S0 _).alloc _).alloc _ | exact ((Ch.refl S0 _).alloc _).drew | exact ((Ch.refl S0 _).drew).alloc _)) (D3.out.keep (by first | exact Ch.refl S0 _ | exact (Ch.refl S0 _).alloc _ | exact (Ch.refl S0 _).drew | exact ((Ch.refl S0 _).alloc _).alloc _ | exact ((Ch.refl S0 _).alloc _).drew | exact ((Ch.refl S0 _).drew).alloc _)) L3.out _ (full_add K HLT.out)).mono ?_)
             rintro e w10 ⟨va, rfl, hV, hC⟩
             obtain ⟨Aa, ra, rfl⟩ := hV.shape
             have hCC : Ch S0 w9 w10 := Ch.trans (by first | exact Ch.refl S0 _ | exact (Ch.refl S0 _).alloc _ | exact (Ch.refl S0 _).drew | exact ((Ch.refl S0 _).alloc _).alloc _ | exact ((Ch.refl S0 _).alloc _).drew | exact ((Ch.refl S0 _).drew).alloc _) hC
             have HC10 := Lib.hid (HC9.out.trans hCC)
             clear HC9
             have Vx := Lib.hid (V1.out.keep hCC)
             clear V1
             have V1 := Vx
             clear Vx
             have Vx := Lib.hid (Vg.out.keep hCC)
             clear Vg
             have Vg := Vx
             clear Vx
             have Vx := Lib.hid (Vh.out.keep hCC)
             clear Vh
             have Vh := Vx
             clear Vx
             have Dx := Lib.hid (D3.out.keep hCC)
             clear D3
             have D3 := Dx
             clear Dx
             have Bx := Lib.hid (Bp.out.keep hCC (fun h => h))
             clear Bp
             have Bp := Bx
             clear Bx
             have Bx := Lib.hid (Bq.out.keep hCC (fun h => h))
             clear Bq
             have Bq := Bx
             clear Bx
             have Bx := Lib.hid (Br.out.keep hCC (fun h => h))
             clear Br
             have Br := Bx
             clear Bx
             have Va := Lib.hid hV
             clear hV
             clear hC hCC
             try clear xpz xp0 xp1 xp2
             have xpz := Bp.out.lt
             have xp0 := Bp.out.cell 0
             have xp1 := Bp.out.cell 1
             have xp2 := Bp.out.cell 2
             simp only [List.getElem?_toArray, List.getElem?_cons_zero, List.getElem?_cons_succ] at xp0 xp1 xp2
             try clear xqz xq0 xq1 xq2
             have xqz := Bq.out.lt
             have xq0 := Bq.out.cell 0
             have xq1 := Bq.out.cell 1
             have xq2 := Bq.out.cell 2
             simp only [List.getElem?_toArray, List.getElem?_cons_zero, List.getElem?_cons_succ] at xq0 xq1 xq2
             try clear xrz xr0 xr1 xr2
             have xrz := Br.out.lt
             have xr0 := Br.out.cell 0
             have xr1 := Br.out.cell 1
             have xr2 := Br.out.cell 2
             simp only [List.getElem?_toArray, List.getElem?_cons_zero, List.getElem?_cons_succ] at xr0 xr1 xr2)
          | (go_at_call 13
             (with_reducible refine (blequal_true _ _ M K j _ _ (Va.out.keep (by first | exact Ch.refl S0 _ | exact (Ch.refl S0 _).alloc _ | exact (Ch.refl S0 _).drew | exact ((Ch.refl S0 _).alloc _).alloc _ | exact ((Ch.refl S0 _).alloc _).drew | exact ((Ch.refl S0 _).drew).alloc _)) (Vg.out.keep (by first | exact Ch.refl S0 _ | exact (Ch.refl S0 _).alloc _ | exact (Ch.refl S0 _).drew | exact ((Ch.refl S0 _).alloc _).alloc _ | exact ((Ch.refl S0 _).alloc _).drew | exact ((Ch.refl S0 _).drew).alloc _))).mono ?_)
             rintro e w11 ⟨rfl, hC⟩
             have hCC : Ch S0 w10 w11 := Ch.trans (by first | exact Ch.refl S0 _ | exact (Ch.refl S0 _).alloc _ | exact (Ch.refl S0 _).drew | exact ((Ch.refl S0 _).alloc _).alloc _ | exact ((Ch.refl S0 _).alloc _).drew | exact ((Ch.refl S0 _).drew).alloc _) hC
             have HC11 := Lib.hid (HC10.out.trans hCC)
             clear HC10
             have Vx := Lib.hid (V1.out.keep hCC)
             clear V1
             have V1 := Vx
             clear Vx
             have Vx := Lib.hid (Vg.out.keep hCC)
             clear Vg
             have Vg := Vx
             clear Vx
             have Vx := Lib.hid (Vh.out.keep hCC)
             clear Vh
             have Vh := Vx
             clear Vx
             have Vx := Lib.hid (Va.out.keep hCC)
             clear Va
             have Va := Vx
             clear Vx
             have Dx := Lib.hid (D3.out.keep hCC)
             clear D3
             have D3 := Dx
             clear Dx
             have Bx := Lib.hid (Bp.out.keep hCC (fun h => h))
             clear Bp
             have Bp := Bx
             clear Bx
             have Bx := Lib.hid (Bq.out.keep hCC (fun h => h))
             clear Bq
             have Bq := Bx
             clear Bx
             have Bx := Lib.hid (Br.out.keep hCC (fun h => h))
             clear Br
             have Br := Bx
             clear Bx
             clear hC hCC
             try clear xpz xp0 xp1 xp2
             have xpz := Bp.out.lt
             have xp0 := Bp.out.cell 0
             have xp1 := Bp.out.cell 1
             have xp2 := Bp.out.cell 2
             simp only [List.getElem?_toArray, List.getElem?_cons_zero, List.getElem?_cons_succ] at xp0 xp1 xp2
             try clear xqz xq0 xq1 xq2
             have xqz := Bq.out.lt
             have xq0 := Bq.out.cell 0
             have xq1 := Bq.out.cell 1
             have xq2 := Bq.out.cell 2
             simp only [List.getElem?_toArray, List.getElem?_cons_zero, List.getElem?_cons_succ] at xq0 xq1 xq2
             try clear xrz xr0 xr1 xr2
             have xrz := Br.out.lt
             have xr0 := Br.out.cell 0
             have xr1 := Br.out.cell 1
             have xr2 := Br.out.cell 2
             simp only [List.getElem?_toArray, List.getElem?_cons_zero, List.getElem?_cons_succ] at xr0 xr1 xr2))
      go_wp2_with fail
      go_ret
      exact ⟨rfl, HC11.out.trans (by first | exact Ch.refl S0 _ | exact (Ch.refl S0 _).alloc _ | exact (Ch.refl S0 _).drew | exact ((Ch.refl S0 _).alloc _).alloc _ | exact ((Ch.refl S0 _).alloc _).drew | exact ((Ch.refl S0 _).drew).alloc _)⟩
end Go.Proofs.Ytagillnkdaanaaa
