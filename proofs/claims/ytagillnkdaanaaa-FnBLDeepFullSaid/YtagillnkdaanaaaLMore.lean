/- THE WALK of FnBLDeepMore. -/
import Derived.Test.YtagillnkdaanaaaRc
import Derived.Test.YtagillnkdaanaaaI
import Derived.Test.YtagillnkdaanaaaQ
import Derived.Test.YtagillnkdaanaaaW
namespace Go.Proofs.Ytagillnkdaanaaa
open Go.RowKit
set_option linter.unusedVariables false
set_option linter.unusedSimpArgs false

theorem Dat.shape {w : World} {v : Value} {n : Nat} {f : Nat → Int} (h : Dat w v n f) : ∃ A cap, v = .slice A n cap := by
  obtain ⟨_, A, cap, h1, _⟩ := h
  exact ⟨A, cap, h1⟩

set_option maxRecDepth 100000 in
set_option maxHeartbeats 4000000 in
theorem more_small (m k : Nat) (P1 P2 : Option Addr) (n1 c1 n2 c2 : Nat) (x1 x2 : Nat → Nat) (P3 P4 : Option Addr) (n3 c3 n4 c4 : Nat) (f3 f4 : Nat → Int) (w : World) (hm : m < 65536) (hk : k < 256)
    (h1 : n1 ≤ 2147483647) (hA1 : WIn w P1 n1 x1) (h2 : n2 ≤ 2147483647) (hA2 : WIn w P2 n2 x2) (h3 : n3 ≤ 2147483647) (hA3 : Raw w (.slice P3 n3 c3) n3 f3) (h4 : n4 ≤ 2147483647) (hA4 : Raw w (.slice P4 n4 c4) n4 f4) :
    Calls Try.prog 3 #[.int .u16 m, .int .u8 k, .slice P1 n1 c1, .slice P2 n2 c2, .slice P3 n3 c3, .slice P4 n4 c4] w fun e w' => e = .returned (.bool true) ∧ Ch S0 w w' := by
  have X1 := Lib.hid hA1
  have X2 := Lib.hid hA2
  have X3 := Lib.hid hA3
  have X4 := Lib.hid hA4
  obtain ⟨M, hM⟩ : ∃ M, M = 1 + m % 700 := ⟨_, rfl⟩
  obtain ⟨K, hK⟩ : ∃ K, K = 1 + k % 8 := ⟨_, rfl⟩
  obtain ⟨n, hn⟩ : ∃ n, n = (M + 63) / 64 := ⟨_, rfl⟩
  have hb1 := fun w hA => blfilter_any m k n1 c1 P1 x1 w hm hk (by omega) hA
  have hb2 := fun w hA => blfilter_any m k n2 c2 P2 x2 w hm hk (by omega) hA
  rw [← hM, ← hK, ← hn] at hb1 hb2
  have F1 := Lib.hid hb1
  have F2 := Lib.hid hb2
  clear hA1 hA2 hA3 hA4 hb1 hb2 hM hK hn
  go_enter Try.func3, Try.ntmps3
  have HC0 := Lib.hid (Ch.refl S0 w)
  go_wp2_with fail
  refine (F1.out _ X1.out).mono ?_
  rintro e w1 ⟨v1, rfl, hV, hC⟩
  obtain ⟨A1, r1, rfl⟩ := hV.shape
  have hCC : Ch S0 w w1 := Ch.trans (by first | exact Ch.refl S0 _ | exact (Ch.refl S0 _).alloc _ | exact (Ch.refl S0 _).drew | exact ((Ch.refl S0 _).alloc _).alloc _ | exact ((Ch.refl S0 _).alloc _).drew | exact ((Ch.refl S0 _).drew).alloc _) hC
  have HC1 := Lib.hid (HC0.out.trans hCC)
  clear HC0
  have V1 := Lib.hid hV
  clear hV
  clear hC hCC
  go_wp2_with fail
  refine (F2.out _ (X2.out.keep HC1.out)).mono ?_
  rintro e w2 ⟨v2, rfl, hV, hC⟩
  obtain ⟨A2, r2, rfl⟩ := hV.shape
  have hCC : Ch S0 w1 w2 := Ch.trans (by first | exact Ch.refl S0 _ | exact (Ch.refl S0 _).alloc _ | exact (Ch.refl S0 _).drew | exact ((Ch.refl S0 _).alloc _).alloc _ | exact ((Ch.refl S0 _).alloc _).drew | exact ((Ch.refl S0 _).drew).alloc _) hC
  have HC2 := Lib.hid (HC1.out.trans hCC)
  clear HC1
  have Vx := Lib.hid (V1.out.keep hCC)
  clear V1
  have V1 := Vx
  clear Vx
  have V2 := Lib.hid hV
  clear hV
  clear hC hCC
  go_wp2_with fail
  refine (bldata_any _ n3 f3 _ (X3.out.keep HC2.out)).mono ?_
  rintro e wD ⟨vd, nd3, rfl, hD, rfl⟩
  obtain ⟨BB3, d3, rfl⟩ := hD.shape
  have D3 := Lib.hid hD
  clear hD
  go_wp2_with fail
  refine (bldata_any _ n4 f4 _ (X4.out.keep HC2.out)).mono ?_
  rintro e wD ⟨vd, nd4, rfl, hD, rfl⟩
  obtain ⟨BB4, d4, rfl⟩ := hD.shape
  have D4 := Lib.hid hD
  clear hD
  have hp := V1.out.pos
  have hs3 := D3.out.small
  have hs4 := D4.out.small
  obtain ⟨lc3, hl3⟩ := isLoc_ex nd3 f3 M hs3 (by omega) (by omega)
  obtain ⟨lc4, hl4⟩ := isLoc_ex nd4 f4 M hs4 (by omega) (by omega)
  have L3 := Lib.hid hl3
  have L4 := Lib.hid hl4
  clear hl3 hl4 hs3 hs4 hp
  go_wp2_with fail
  refine (blmerge_any _ _ M K n _ _ _ (V1.out.keep (by first | exact Ch.refl S0 _ | exact (Ch.refl S0 _).alloc _ | exact (Ch.refl S0 _).drew | exact ((Ch.refl S0 _).alloc _).alloc _ | exact ((Ch.refl S0 _).alloc _).drew | exact ((Ch.refl S0 _).drew).alloc _)) (V2.out.keep (by first | exact Ch.refl S0 _ | exact (Ch.refl S0 _).alloc _ | exact (Ch.refl S0 _).drew | exact ((Ch.refl S0 _).alloc _).alloc _ | exact ((Ch.refl S0 _).alloc _).drew | exact ((Ch.refl S0 _).drew).alloc _))).mono ?_
  rintro e w3 ⟨vh, rfl, hV, hC⟩
  obtain ⟨Ah, rh, rfl⟩ := hV.shape
  have hCC : Ch S0 w2 w3 := Ch.trans (by first | exact Ch.refl S0 _ | exact (Ch.refl S0 _).alloc _ | exact (Ch.refl S0 _).drew | exact ((Ch.refl S0 _).alloc _).alloc _ | exact ((Ch.refl S0 _).alloc _).drew | exact ((Ch.refl S0 _).drew).alloc _) hC
  have HC3 := Lib.hid (HC2.out.trans hCC)
  clear HC2
  have Vx := Lib.hid (V1.out.keep hCC)
  clear V1
  have V1 := Vx
  clear Vx
  have Vx := Lib.hid (V2.out.keep hCC)
  clear V2
  have V2 := Vx
  clear Vx
  have Dx := Lib.hid (D3.out.keep hCC)
  clear D3
  have D3 := Dx
  clear Dx
  have Dx := Lib.hid (D4.out.keep hCC)
  clear D4
  have D4 := Dx
  clear Dx
  have Bx0 := ((Blk.new w2 #[Value.int .u64 (M : Nat), .int .u64 (K : Nat), .slice A1 n r1] 27)).alloc (Obj.cells #[Value.int .u64 (M : Nat), .int .u64 (K : Nat), .slice A2 n r2] 27)
  have Bp : Hid (Blk w3 (w2.heap.size) #[Value.int .u64 (M : Nat), .int .u64 (K : Nat), .slice A1 n r1]) := Lib.hid (Blk.keep (S := S0) (by simpa using Bx0) hC (fun h => h))
  clear Bx0
  have Bx0 := (Blk.new (w2.alloc (Obj.cells #[Value.int .u64 (M : Nat), .int .u64 (K : Nat), .slice A1 n r1] 27)) #[Value.int .u64 (M : Nat), .int .u64 (K : Nat), .slice A2 n r2] 27)
  have Bq : Hid (Blk w3 (w2.heap.size + 1) #[Value.int .u64 (M : Nat), .int .u64 (K : Nat), .slice A2 n r2]) := Lib.hid (Blk.keep (S := S0) (by simpa using Bx0) hC (fun h => h))
  clear Bx0
  have Vh := Lib.hid hV
  clear hV
  clear hC hCC
  try clear xpz xp0 xp1 xp2
  have xpz := Bp.out.lt
  have xp0 := Bp.out.cell 0
  have xp1 := Bp.out.cell 1
  have xp2 := Bp.out.cell 2
  simp only [List.getElem?_toArray, List.getElem?_cons_zero, List.getElem?_cons_succ] at xp0 xp1 xp2
  try clear xqz xq0 xq1 xq2
  have xqz := Bq.out.lt
  have xq0 := Bq.out.cell 0
  have xq1 := Bq.out.cell 1
  have xq2 := Bq.out.cell 2
  simp only [List.getElem?_toArray, List.getElem?_cons_zero, List.getElem?_cons_succ] at xq0 xq1 xq2
  go_wp2_with fail
  refine (bltest_any _ _ M K n nd3 _ _ lc3 _ (V1.out.keep (by first | exact Ch.refl S0 _ | exact (Ch.refl S0 _).alloc _ | exact (Ch.refl S0 _).drew | exact ((Ch.refl S0 _).alloc _).alloc _ | exact ((Ch.refl S0 _).alloc _).drew | exact ((Ch.refl S0 _).drew).alloc _)) (D3.out.keep (by first | exact Ch.refl S0 _ | exact (Ch.refl S0 _).alloc _ | exact (Ch.refl S0 _).drew | exact ((Ch.refl S0 _).alloc _).alloc _ | exact ((Ch.refl S0 _).alloc _).drew | exact ((Ch.refl S0 _).drew).alloc _)) L3.out).mono ?_
  rintro e w4 ⟨rfl, hC⟩
  have hCC : Ch S0 w3 w4 := Ch.trans (by first | exact Ch.refl S0 _ | exact (Ch.refl S0 _).alloc _ | exact (Ch.refl S0 _).drew | exact ((Ch.refl S0 _).alloc _).alloc _ | exact ((Ch.refl S0 _).alloc _).drew | exact ((Ch.refl S0 _).drew).alloc _) hC
  have HC4 := Lib.hid (HC3.out.trans hCC)
  clear HC3
  have Vx := Lib.hid (V1.out.keep hCC)
  clear V1
  have V1 := Vx
  clear Vx
  have Vx := Lib.hid (V2.out.keep hCC)
  clear V2
  have V2 := Vx
  clear Vx
  have Vx := Lib.hid (Vh.out.keep hCC)
  clear Vh
  have Vh := Vx
  clear Vx
  have Dx := Lib.hid (D3.out.keep hCC)
  clear D3
  have D3 := Dx
  clear Dx
  have Dx := Lib.hid (D4.out.keep hCC)
  clear D4
  have D4 := Dx
  clear Dx
  have Bx := Lib.hid (Bp.out.keep hCC (fun h => h))
  clear Bp
  have Bp := Bx
  clear Bx
  have Bx := Lib.hid (Bq.out.keep hCC (fun h => h))
  clear Bq
  have Bq := Bx
  clear Bx
  have Bx0 := (Blk.new w3 #[Value.int .u64 (M : Nat), .int .u64 (K : Nat), .slice Ah n rh] 27)
  have Br : Hid (Blk w4 (w3.heap.size) #[Value.int .u64 (M : Nat), .int .u64 (K : Nat), .slice Ah n rh]) := Lib.hid (Blk.keep (S := S0) (by simpa using Bx0) hC (fun h => h))
  clear Bx0
  clear hC hCC
  try clear xpz xp0 xp1 xp2
  have xpz := Bp.out.lt
  have xp0 := Bp.out.cell 0
  have xp1 := Bp.out.cell 1
  have xp2 := Bp.out.cell 2
  simp only [List.getElem?_toArray, List.getElem?_cons_zero, List.getElem?_cons_succ] at xp0 xp1 xp2
  try clear xqz xq0 xq1 xq2
  have xqz := Bq.out.lt
  have xq0 := Bq.out.cell 0
  have xq1 := Bq.out.cell 1
  have xq2 := Bq.out.cell 2
  simp only [List.getElem?_toArray, List.getElem?_cons_zero, List.getElem?_cons_succ] at xq0 xq1 xq2
  try clear xrz xr0 xr1 xr2
  have xrz := Br.out.lt
  have xr0 := Br.out.cell 0
  have xr1 := Br.out.cell 1
  have xr2 := Br.out.cell 2
  simp only [List.getElem?_toArray, List.getElem?_cons_zero, List.getElem?_cons_succ] at xr0 xr1 xr2
  cases hW : allTo (fBits M n1 x1) lc3 K
  · have HW := Lib.hid hW
    simp only [hW]
    clear hW
    go_wp2_with fail
    refine (bladd_any _ _ M K n nd4 _ _ lc4 _ (V1.out.keep (by first | exact Ch.refl S0 _ | exact (Ch.refl S0 _).alloc _ | exact (Ch.refl S0 _).drew | exact ((Ch.refl S0 _).alloc _).alloc _ | exact ((Ch.refl S0 _).alloc _).drew | exact ((Ch.refl S0 _).drew).alloc _)) (D4.out.keep (by first | exact Ch.refl S0 _ | exact (Ch.refl S0 _).alloc _ | exact (Ch.refl S0 _).drew | exact ((Ch.refl S0 _).alloc _).alloc _ | exact ((Ch.refl S0 _).alloc _).drew | exact ((Ch.refl S0 _).drew).alloc _)) L4.out).mono ?_
    rintro e w5 ⟨vb, rfl, hV, hC⟩
    obtain ⟨Ab, rb, rfl⟩ := hV.shape
    have hCC : Ch S0 w4 w5 := Ch.trans (by first | exact Ch.refl S0 _ | exact (Ch.refl S0 _).alloc _ | exact (Ch.refl S0 _).drew | exact ((Ch.refl S0 _).alloc _).alloc _ | exact ((Ch.refl S0 _).alloc _).drew | exact ((Ch.refl S0 _).drew).alloc _) hC
    have HC5 := Lib.hid (HC4.out.trans hCC)
    clear HC4
    have Vx := Lib.hid (V1.out.keep hCC)
    clear V1
    have V1 := Vx
    clear Vx
    have Vx := Lib.hid (V2.out.keep hCC)
    clear V2
    have V2 := Vx
    clear Vx
    have Vx := Lib.hid (Vh.out.keep hCC)
    clear Vh
    have Vh := Vx
    clear Vx
    have Dx := Lib.hid (D3.out.keep hCC)
    clear D3
    have D3 := Dx
    clear Dx
    have Dx := Lib.hid (D4.out.keep hCC)
    clear D4
    have D4 := Dx
    clear Dx
    have Bx := Lib.hid (Bp.out.keep hCC (fun h => h))
    clear Bp
    have Bp := Bx
    clear Bx
    have Bx := Lib.hid (Bq.out.keep hCC (fun h => h))
    clear Bq
    have Bq := Bx
    clear Bx
    have Bx := Lib.hid (Br.out.keep hCC (fun h => h))
    clear Br
    have Br := Bx
    clear Bx
    have Vb := Lib.hid hV
    clear hV
    clear hC hCC
    try clear xpz xp0 xp1 xp2
    have xpz := Bp.out.lt
    have xp0 := Bp.out.cell 0
    have xp1 := Bp.out.cell 1
    have xp2 := Bp.out.cell 2
    simp only [List.getElem?_toArray, List.getElem?_cons_zero, List.getElem?_cons_succ] at xp0 xp1 xp2
    try clear xqz xq0 xq1 xq2
    have xqz := Bq.out.lt
    have xq0 := Bq.out.cell 0
    have xq1 := Bq.out.cell 1
    have xq2 := Bq.out.cell 2
    simp only [List.getElem?_toArray, List.getElem?_cons_zero, List.getElem?_cons_succ] at xq0 xq1 xq2
    try clear xrz xr0 xr1 xr2
    have xrz := Br.out.lt
    have xr0 := Br.out.cell 0
    have xr1 := Br.out.cell 1
    have xr2 := Br.out.cell 2
    simp only [List.getElem?_toArray, List.getElem?_cons_zero, List.getElem?_cons_succ] at xr0 xr1 xr2
    go_wp2_with fail
    refine (bltest_any _ _ M K n nd4 _ _ lc4 _ (Vb.out.keep (by first | exact Ch.refl S0 _ | exact (Ch.refl S0 _).alloc _ | exact (Ch.refl S0 _).drew | exact ((Ch.refl S0 _).alloc _).alloc _ | exact ((Ch.refl S0 _).alloc _).drew | exact ((Ch.refl S0 _).drew).alloc _)) (D4.out.keep (by first | exact Ch.refl S0 _ | exact (Ch.refl S0 _).alloc _ | exact (Ch.refl S0 _).drew | exact ((Ch.refl S0 _).alloc _).alloc _ | exact ((Ch.refl S0 _).alloc _).drew | exact ((Ch.refl S0 _).drew).alloc _)) L4.out).mono ?_
    rintro e w6 ⟨rfl, hC⟩
    have hCC : Ch S0 w5 w6 := Ch.trans (by first | exact Ch.refl S0 _ | exact (Ch.refl S0 _).alloc _ | exact (Ch.refl S0 _).drew | exact ((Ch.refl S0 _).alloc _).alloc _ | exact ((Ch.refl S0 _).alloc _).drew | exact ((Ch.refl S0 _).drew).alloc _) hC
    have HC6 := Lib.hid (HC5.out.trans hCC)
    clear HC5
    have Vx := Lib.hid (V1.out.keep hCC)
    clear V1
    have V1 := Vx
    clear Vx
    have Vx := Lib.hid (V2.out.keep hCC)
    clear V2
    have V2 := Vx
    clear Vx
    have Vx := Lib.hid (Vh.out.keep hCC)
    clear Vh
    have Vh := Vx
    clear Vx
    have Vx := Lib.hid (Vb.out.keep hCC)
    clear Vb
    have Vb := Vx
    clear Vx
    have Dx := Lib.hid (D3.out.keep hCC)
    clear D3
    have D3 := Dx
    clear Dx
    have Dx := Lib.hid (D4.out.keep hCC)
    clear D4
    have D4 := Dx
    clear Dx
    have Bx := Lib.hid (Bp.out.keep hCC (fun h => h))
    clear Bp
    have Bp := Bx
    clear Bx
    have Bx := Lib.hid (Bq.out.keep hCC (fun h => h))
    clear Bq
    have Bq := Bx
    clear Bx
    have Bx := Lib.hid (Br.out.keep hCC (fun h => h))
    clear Br
    have Br := Bx
    clear Bx
    clear hC hCC
    try clear xpz xp0 xp1 xp2
    have xpz := Bp.out.lt
    have xp0 := Bp.out.cell 0
    have xp1 := Bp.out.cell 1
    have xp2 := Bp.out.cell 2
    simp only [List.getElem?_toArray, List.getElem?_cons_zero, List.getElem?_cons_succ] at xp0 xp1 xp2
    try clear xqz xq0 xq1 xq2
    have xqz := Bq.out.lt
    have xq0 := Bq.out.cell 0
    have xq1 := Bq.out.cell 1
    have xq2 := Bq.out.cell 2
    simp only [List.getElem?_toArray, List.getElem?_cons_zero, List.getElem?_cons_succ] at xq0 xq1 xq2
    try clear xrz xr0 xr1 xr2
    have xrz := Br.out.lt
    have xr0 := Br.out.cell 0
    have xr1 := Br.out.cell 1
    have xr2 := Br.out.cell 2
    simp only [List.getElem?_toArray, List.getElem?_cons_zero, List.getElem?_cons_succ] at xr0 xr1 xr2
    have E3 : allTo (addTo (fBits M n1 x1) lc4 K) lc4 K = true := found_added _ _ _
    simp only [E3]
    go_wp2_with fail
    go_ret
    exact ⟨rfl, HC6.out⟩
  · have HW := Lib.hid hW
    simp only [hW]
    clear hW
    go_wp2_with fail
    refine (bladd_any _ _ M K n nd4 _ _ lc4 _ (V1.out.keep (by first | exact Ch.refl S0 _ | exact (Ch.refl S0 _).alloc _ | exact (Ch.refl S0 _).drew | exact ((Ch.refl S0 _).alloc _).alloc _ | exact ((Ch.refl S0 _).alloc _).drew | exact ((Ch.refl S0 _).drew).alloc _)) (D4.out.keep (by first | exact Ch.refl S0 _ | exact (Ch.refl S0 _).alloc _ | exact (Ch.refl S0 _).drew | exact ((Ch.refl S0 _).alloc _).alloc _ | exact ((Ch.refl S0 _).alloc _).drew | exact ((Ch.refl S0 _).drew).alloc _)) L4.out).mono ?_
    rintro e w5 ⟨va, rfl, hV, hC⟩
    obtain ⟨Aa, ra, rfl⟩ := hV.shape
    have hCC : Ch S0 w4 w5 := Ch.trans (by first | exact Ch.refl S0 _ | exact (Ch.refl S0 _).alloc _ | exact (Ch.refl S0 _).drew | exact ((Ch.refl S0 _).alloc _).alloc _ | exact ((Ch.refl S0 _).alloc _).drew | exact ((Ch.refl S0 _).drew).alloc _) hC
    have HC5 := Lib.hid (HC4.out.trans hCC)
    clear HC4
    have Vx := Lib.hid (V1.out.keep hCC)
    clear V1
    have V1 := Vx
    clear Vx
    have Vx := Lib.hid (V2.out.keep hCC)
    clear V2
    have V2 := Vx
    clear Vx
    have Vx := Lib.hid (Vh.out.keep hCC)
    clear Vh
    have Vh := Vx
    clear Vx
    have Dx := Lib.hid (D3.out.keep hCC)
    clear D3
    have D3 := Dx
    clear Dx
    have Dx := Lib.hid (D4.out.keep hCC)
    clear D4
    have D4 := Dx
    clear Dx
    have Bx := Lib.hid (Bp.out.keep hCC (fun h => h))
    clear Bp
    have Bp := Bx
    clear Bx
    have Bx := Lib.hid (Bq.out.keep hCC (fun h => h))
    clear Bq
    have Bq := Bx
    clear Bx
    have Bx := Lib.hid (Br.out.keep hCC (fun h => h))
    clear Br
    have Br := Bx
    clear Bx
    have Va := Lib.hid hV
    clear hV
    clear hC hCC
    try clear xpz xp0 xp1 xp2
    have xpz := Bp.out.lt
    have xp0 := Bp.out.cell 0
    have xp1 := Bp.out.cell 1
    have xp2 := Bp.out.cell 2
    simp only [List.getElem?_toArray, List.getElem?_cons_zero, List.getElem?_cons_succ] at xp0 xp1 xp2
    try clear xqz xq0 xq1 xq2
    have xqz := Bq.out.lt
    have xq0 := Bq.out.cell 0
    have xq1 := Bq.out.cell 1
    have xq2 := Bq.out.cell 2
    simp only [List.getElem?_toArray, List.getElem?_cons_zero, List.getElem?_cons_succ] at xq0 xq1 xq2
    try clear xrz xr0 xr1 xr2
    have xrz := Br.out.lt
    have xr0 := Br.out.cell 0
    have xr1 := Br.out.cell 1
    have xr2 := Br.out.cell 2
    simp only [List.getElem?_toArray, List.getElem?_cons_zero, List.getElem?_cons_succ] at xr0 xr1 xr2
    go_wp2_with fail
    refine (bltest_any _ _ M K n nd3 _ _ lc3 _ (Va.out.keep (by first | exact Ch.refl S0 _ | exact (Ch.refl S0 _).alloc _ | exact (Ch.refl S0 _).drew | exact ((Ch.refl S0 _).alloc _).alloc _ | exact ((Ch.refl S0 _).alloc _).drew | exact ((Ch.refl S0 _).drew).alloc _)) (D3.out.keep (by first | exact Ch.refl S0 _ | exact (Ch.refl S0 _).alloc _ | exact (Ch.refl S0 _).drew | exact ((Ch.refl S0 _).alloc _).alloc _ | exact ((Ch.refl S0 _).alloc _).drew | exact ((Ch.refl S0 _).drew).alloc _)) L3.out).mono ?_
    rintro e w6 ⟨rfl, hC⟩
    have hCC : Ch S0 w5 w6 := Ch.trans (by first | exact Ch.refl S0 _ | exact (Ch.refl S0 _).alloc _ | exact (Ch.refl S0 _).drew | exact ((Ch.refl S0 _).alloc _).alloc _ | exact ((Ch.refl S0 _).alloc _).drew | exact ((Ch.refl S0 _).drew).alloc _) hC
    have HC6 := Lib.hid (HC5.out.trans hCC)
    clear HC5
    have Vx := Lib.hid (V1.out.keep hCC)
    clear V1
    have V1 := Vx
    clear Vx
    have Vx := Lib.hid (V2.out.keep hCC)
    clear V2
    have V2 := Vx
    clear Vx
    have Vx := Lib.hid (Vh.out.keep hCC)
    clear Vh
    have Vh := Vx
    clear Vx
    have Vx := Lib.hid (Va.out.keep hCC)
    clear Va
    have Va := Vx
    clear Vx
    have Dx := Lib.hid (D3.out.keep hCC)
    clear D3
    have D3 := Dx
    clear Dx
    have Dx := Lib.hid (D4.out.keep hCC)
    clear D4
    have D4 := Dx
    clear Dx
    have Bx := Lib.hid (Bp.out.keep hCC (fun h => h))
    clear Bp
    have Bp := Bx
    clear Bx
    have Bx := Lib.hid (Bq.out.keep hCC (fun h => h))
    clear Bq
    have Bq := Bx
    clear Bx
    have Bx := Lib.hid (Br.out.keep hCC (fun h => h))
    clear Br
    have Br := Bx
    clear Bx
    clear hC hCC
    try clear xpz xp0 xp1 xp2
    have xpz := Bp.out.lt
    have xp0 := Bp.out.cell 0
    have xp1 := Bp.out.cell 1
    have xp2 := Bp.out.cell 2
    simp only [List.getElem?_toArray, List.getElem?_cons_zero, List.getElem?_cons_succ] at xp0 xp1 xp2
    try clear xqz xq0 xq1 xq2
    have xqz := Bq.out.lt
    have xq0 := Bq.out.cell 0
    have xq1 := Bq.out.cell 1
    have xq2 := Bq.out.cell 2
    simp only [List.getElem?_toArray, List.getElem?_cons_zero, List.getElem?_cons_succ] at xq0 xq1 xq2
    try clear xrz xr0 xr1 xr2
    have xrz := Br.out.lt
    have xr0 := Br.out.cell 0
    have xr1 := Br.out.cell 1
    have xr2 := Br.out.cell 2
    simp only [List.getElem?_toArray, List.getElem?_cons_zero, List.getElem?_cons_succ] at xr0 xr1 xr2
    have E1 : allTo (addTo (fBits M n1 x1) lc4 K) lc3 K = true := found_more (fun p hp => addTo_old hp K) HW.out
    simp only [E1]
    go_wp2_with fail
    refine (bltest_any _ _ M K n nd3 _ _ lc3 _ (Vh.out.keep (by first | exact Ch.refl S0 _ | exact (Ch.refl S0 _).alloc _ | exact (Ch.refl S0 _).drew | exact ((Ch.refl S0 _).alloc _).alloc _ | exact ((Ch.refl S0 _).alloc _).drew | exact ((Ch.refl S0 _).drew).alloc _)) (D3.out.keep (by first | exact Ch.refl S0 _ | exact (Ch.refl S0 _).alloc _ | exact (Ch.refl S0 _).drew | exact ((Ch.refl S0 _).alloc _).alloc _ | exact ((Ch.refl S0 _).alloc _).drew | exact ((Ch.refl S0 _).drew).alloc _)) L3.out).mono ?_
    rintro e w7 ⟨rfl, hC⟩
    have hCC : Ch S0 w6 w7 := Ch.trans (by first | exact Ch.refl S0 _ | exact (Ch.refl S0 _).alloc _ | exact (Ch.refl S0 _).drew | exact ((Ch.refl S0 _).alloc _).alloc _ | exact ((Ch.refl S0 _).alloc _).drew | exact ((Ch.refl S0 _).drew).alloc _) hC
    have HC7 := Lib.hid (HC6.out.trans hCC)
    clear HC6
    have Vx := Lib.hid (V1.out.keep hCC)
    clear V1
    have V1 := Vx
    clear Vx
    have Vx := Lib.hid (V2.out.keep hCC)
    clear V2
    have V2 := Vx
    clear Vx
    have Vx := Lib.hid (Vh.out.keep hCC)
    clear Vh
    have Vh := Vx
    clear Vx
    have Vx := Lib.hid (Va.out.keep hCC)
    clear Va
    have Va := Vx
    clear Vx
    have Dx := Lib.hid (D3.out.keep hCC)
    clear D3
    have D3 := Dx
    clear Dx
    have Dx := Lib.hid (D4.out.keep hCC)
    clear D4
    have D4 := Dx
    clear Dx
    have Bx := Lib.hid (Bp.out.keep hCC (fun h => h))
    clear Bp
    have Bp := Bx
    clear Bx
    have Bx := Lib.hid (Bq.out.keep hCC (fun h => h))
    clear Bq
    have Bq := Bx
    clear Bx
    have Bx := Lib.hid (Br.out.keep hCC (fun h => h))
    clear Br
    have Br := Bx
    clear Bx
    clear hC hCC
    try clear xpz xp0 xp1 xp2
    have xpz := Bp.out.lt
    have xp0 := Bp.out.cell 0
    have xp1 := Bp.out.cell 1
    have xp2 := Bp.out.cell 2
    simp only [List.getElem?_toArray, List.getElem?_cons_zero, List.getElem?_cons_succ] at xp0 xp1 xp2
    try clear xqz xq0 xq1 xq2
    have xqz := Bq.out.lt
    have xq0 := Bq.out.cell 0
    have xq1 := Bq.out.cell 1
    have xq2 := Bq.out.cell 2
    simp only [List.getElem?_toArray, List.getElem?_cons_zero, List.getElem?_cons_succ] at xq0 xq1 xq2
    try clear xrz xr0 xr1 xr2
    have xrz := Br.out.lt
    have xr0 := Br.out.cell 0
    have xr1 := Br.out.cell 1
    have xr2 := Br.out.cell 2
    simp only [List.getElem?_toArray, List.getElem?_cons_zero, List.getElem?_cons_succ] at xr0 xr1 xr2
    have E2 : allTo (fun k => fBits M n1 x1 k || fBits M n2 x2 k) lc3 K = true := found_more (fun p hp => by simp [hp]) HW.out
    simp only [E2]
    go_wp2_with fail
    refine (bladd_any _ _ M K n nd4 _ _ lc4 _ (V1.out.keep (by first | exact Ch.refl S0 _ | exact (Ch.refl S0 _).alloc _ | exact (Ch.refl S0 _).drew | exact ((Ch.refl S0 _).alloc _).alloc _ | exact ((Ch.refl S0 _).alloc _).drew | exact ((Ch.refl S0 _).drew).alloc _)) (D4.out.keep (by first | exact Ch.refl S0 _ | exact (Ch.refl S0 _).alloc _ | exact (Ch.refl S0 _).drew | exact ((Ch.refl S0 _).alloc _).alloc _ | exact ((Ch.refl S0 _).alloc _).drew | exact ((Ch.refl S0 _).drew).alloc _)) L4.out).mono ?_
    rintro e w8 ⟨vb, rfl, hV, hC⟩
    obtain ⟨Ab, rb, rfl⟩ := hV.shape
    have hCC : Ch S0 w7 w8 := Ch.trans (by first | exact Ch.refl S0 _ | exact (Ch.refl S0 _).alloc _ | exact (Ch.refl S0 _).drew | exact ((Ch.refl S0 _).alloc _).alloc _ | exact ((Ch.refl S0 _).alloc _).drew | exact ((Ch.refl S0 _).drew).alloc _) hC
    have HC8 := Lib.hid (HC7.out.trans hCC)
    clear HC7
    have Vx := Lib.hid (V1.out.keep hCC)
    clear V1
    have V1 := Vx
    clear Vx
    have Vx := Lib.hid (V2.out.keep hCC)
    clear V2
    have V2 := Vx
    clear Vx
    have Vx := Lib.hid (Vh.out.keep hCC)
    clear Vh
    have Vh := Vx
    clear Vx
    have Vx := Lib.hid (Va.out.keep hCC)
    clear Va
    have Va := Vx
    clear Vx
    have Dx := Lib.hid (D3.out.keep hCC)
    clear D3
    have D3 := Dx
    clear Dx
    have Dx := Lib.hid (D4.out.keep hCC)
    clear D4
    have D4 := Dx
    clear Dx
    have Bx := Lib.hid (Bp.out.keep hCC (fun h => h))
    clear Bp
    have Bp := Bx
    clear Bx
    have Bx := Lib.hid (Bq.out.keep hCC (fun h => h))
    clear Bq
    have Bq := Bx
    clear Bx
    have Bx := Lib.hid (Br.out.keep hCC (fun h => h))
    clear Br
    have Br := Bx
    clear Bx
    have Vb := Lib.hid hV
    clear hV
    clear hC hCC
    try clear xpz xp0 xp1 xp2
    have xpz := Bp.out.lt
    have xp0 := Bp.out.cell 0
    have xp1 := Bp.out.cell 1
    have xp2 := Bp.out.cell 2
    simp only [List.getElem?_toArray, List.getElem?_cons_zero, List.getElem?_cons_succ] at xp0 xp1 xp2
    try clear xqz xq0 xq1 xq2
    have xqz := Bq.out.lt
    have xq0 := Bq.out.cell 0
    have xq1 := Bq.out.cell 1
    have xq2 := Bq.out.cell 2
    simp only [List.getElem?_toArray, List.getElem?_cons_zero, List.getElem?_cons_succ] at xq0 xq1 xq2
    try clear xrz xr0 xr1 xr2
    have xrz := Br.out.lt
    have xr0 := Br.out.cell 0
    have xr1 := Br.out.cell 1
    have xr2 := Br.out.cell 2
    simp only [List.getElem?_toArray, List.getElem?_cons_zero, List.getElem?_cons_succ] at xr0 xr1 xr2
    go_wp2_with fail
    refine (bltest_any _ _ M K n nd4 _ _ lc4 _ (Vb.out.keep (by first | exact Ch.refl S0 _ | exact (Ch.refl S0 _).alloc _ | exact (Ch.refl S0 _).drew | exact ((Ch.refl S0 _).alloc _).alloc _ | exact ((Ch.refl S0 _).alloc _).drew | exact ((Ch.refl S0 _).drew).alloc _)) (D4.out.keep (by first | exact Ch.refl S0 _ | exact (Ch.refl S0 _).alloc _ | exact (Ch.refl S0 _).drew | exact ((Ch.refl S0 _).alloc _).alloc _ | exact ((Ch.refl S0 _).alloc _).drew | exact ((Ch.refl S0 _).drew).alloc _)) L4.out).mono ?_
    rintro e w9 ⟨rfl, hC⟩
    have hCC : Ch S0 w8 w9 := Ch.trans (by first | exact Ch.refl S0 _ | exact (Ch.refl S0 _).alloc _ | exact (Ch.refl S0 _).drew | exact ((Ch.refl S0 _).alloc _).alloc _ | exact ((Ch.refl S0 _).alloc _).drew | exact ((Ch.refl S0 _).drew).alloc _) hC
    have HC9 := Lib.hid (HC8.out.trans hCC)
    clear HC8
    have Vx := Lib.hid (V1.out.keep hCC)
    clear V1
    have V1 := Vx
    clear Vx
    have Vx := Lib.hid (V2.out.keep hCC)
    clear V2
    have V2 := Vx
    clear Vx
    have Vx := Lib.hid (Vh.out.keep hCC)
    clear Vh
    have Vh := Vx
    clear Vx
    have Vx := Lib.hid (Va.out.keep hCC)
    clear Va
    have Va := Vx
    clear Vx
    have Vx := Lib.hid (Vb.out.keep hCC)
    clear Vb
    have Vb := Vx
    clear Vx
    have Dx := Lib.hid (D3.out.keep hCC)
    clear D3
    have D3 := Dx
    clear Dx
    have Dx := Lib.hid (D4.out.keep hCC)
    clear D4
    have D4 := Dx
    clear Dx
    have Bx := Lib.hid (Bp.out.keep hCC (fun h => h))
    clear Bp
    have Bp := Bx
    clear Bx
    have Bx := Lib.hid (Bq.out.keep hCC (fun h => h))
    clear Bq
    have Bq := Bx
    clear Bx
    have Bx := Lib.hid (Br.out.keep hCC (fun h => h))
    clear Br
    have Br := Bx
    clear Bx
    clear hC hCC
    try clear xpz xp0 xp1 xp2
    have xpz := Bp.out.lt
    have xp0 := Bp.out.cell 0
    have xp1 := Bp.out.cell 1
    have xp2 := Bp.out.cell 2
    simp only [List.getElem?_toArray, List.getElem?_cons_zero, List.getElem?_cons_succ] at xp0 xp1 xp2
    try clear xqz xq0 xq1 xq2
    have xqz := Bq.out.lt
    have xq0 := Bq.out.cell 0
    have xq1 := Bq.out.cell 1
    have xq2 := Bq.out.cell 2
    simp only [List.getElem?_toArray, List.getElem?_cons_zero, List.getElem?_cons_succ] at xq0 xq1 xq2
    try clear xrz xr0 xr1 xr2
    have xrz := Br.out.lt
    have xr0 := Br.out.cell 0
    have xr1 := Br.out.cell 1
    have xr2 := Br.out.cell 2
    simp only [List.getElem?_toArray, List.getElem?_cons_zero, List.getElem?_cons_succ] at xr0 xr1 xr2
    have E3 : allTo (addTo (fBits M n1 x1) lc4 K) lc4 K = true := found_added _ _ _
    simp only [E3]
    go_wp2_with fail
    go_ret
    exact ⟨rfl, HC9.out⟩
end Go.Proofs.Ytagillnkdaanaaa
