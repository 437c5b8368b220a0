/- THE WALK of FnBSDeepEqual. -/
import Derived.Test.YtgnhmgnpmbmjcaaVb
import Derived.Test.YtgnhmgnpmbmjcaaWr
import Derived.Test.YtgnhmgnpmbmjcaaG2
namespace Go.Proofs.Ytgnhmgnpmbmjcaa
open Go.RowKit

set_option maxRecDepth 100000 in
set_option maxHeartbeats 4000000 in
theorem equal_small (l1 : Nat) (P1 : Option Addr) (m1 r1 : Nat) (xs1 : List Nat) (l2 : Nat) (P2 : Option Addr) (m2 r2 : Nat) (xs2 : List Nat) (u1 : Nat) (w : World) (hl1 : Lst 0 w (.slice P1 m1 r1) xs1) (hx1 : ∀ j (hj : j < xs1.length), xs1[j] < 18446744073709551616) (hn1 : xs1.length = m1) (hm1 : m1 ≤ 2147483647) (hl2 : Lst 0 w (.slice P2 m2 r2) xs2) (hx2 : ∀ j (hj : j < xs2.length), xs2[j] < 18446744073709551616) (hn2 : xs2.length = m2) (hm2 : m2 ≤ 2147483647) (hu1 : u1 < 65536) :
    Calls Try.prog 11 #[.agg #[.int .u64 l1, .slice P1 m1 r1], .agg #[.int .u64 l2, .slice P2 m2 r2], .int .u16 u1] w fun e w' => e = .returned (.bool true) ∧ Ch S0 w w' := by
  have HX1 := Lib.hid hx1
  have LX1 := Lib.hid hn1
  have IX1 := Lib.hid hl1
  have HX2 := Lib.hid hx2
  have LX2 := Lib.hid hn2
  have IX2 := Lib.hid hl2
  have HC0 := Lib.hid (Ch.refl S0 w)
  clear hx1 hn1 hl1 hx2 hn2 hl2
  go_enter Try.func11, Try.ntmps11
  go_wp2_with fail
  refine (fits_yes l1 m1 r1 P1 _ hm1).mono ?_
  rintro e w1 ⟨rfl, hC⟩
  have hCC : Ch S0 w w1 := Ch.trans (by first | exact Ch.refl _ _ | exact (Ch.refl _ _).alloc _ | exact (Ch.refl _ _).drew | exact ((Ch.refl _ _).alloc _).alloc _ | exact ((Ch.refl _ _).alloc _).drew | exact (((Ch.refl _ _).alloc _).alloc _).alloc _ | exact (((Ch.refl _ _).alloc _).alloc _).drew | exact ((((Ch.refl _ _).alloc _).alloc _).alloc _).drew | exact ((((Ch.refl _ _).alloc _).alloc _).alloc _).alloc _ | exact (((((Ch.refl _ _).alloc _).alloc _).alloc _).alloc _).drew) hC
  have HC1 := Lib.hid (HC0.out.trans hCC)
  clear HC0
  have Bp1 : Hid (Blk w1 (w.heap.size) #[.int .u64 (l1 : Nat), .slice P1 m1 r1]) := Lib.hid (Blk.keep (S := S0) (by first | exact Blk.newAt _ _ (by simp) | exact (Blk.newAt _ _ (by simp)).alloc _ | exact ((Blk.newAt _ _ (by simp)).alloc _).alloc _ | exact (((Blk.newAt _ _ (by simp)).alloc _).alloc _).alloc _) hC (fun h => h))
  have Bp2 : Hid (Blk w1 (w.heap.size + 1) #[.int .u64 (l2 : Nat), .slice P2 m2 r2]) := Lib.hid (Blk.keep (S := S0) (by first | exact Blk.newAt _ _ (by simp) | exact (Blk.newAt _ _ (by simp)).alloc _ | exact ((Blk.newAt _ _ (by simp)).alloc _).alloc _ | exact (((Blk.newAt _ _ (by simp)).alloc _).alloc _).alloc _) hC (fun h => h))
  clear hC hCC
  try clear xp10 xp11
  try clear xp1z
  have xp1z := Bp1.out.lt
  have xp10 := Bp1.out.cell 0
  have xp11 := Bp1.out.cell 1
  simp only [List.getElem?_toArray, List.getElem?_cons_zero, List.getElem?_cons_succ] at xp10 xp11
  try clear xp20 xp21
  try clear xp2z
  have xp2z := Bp2.out.lt
  have xp20 := Bp2.out.cell 0
  have xp21 := Bp2.out.cell 1
  simp only [List.getElem?_toArray, List.getElem?_cons_zero, List.getElem?_cons_succ] at xp20 xp21
  go_wp2_with fail
  refine (fits_yes l2 m2 r2 P2 _ hm2).mono ?_
  rintro e w2 ⟨rfl, hC⟩
  have hCC : Ch S0 w1 w2 := Ch.trans (by first | exact Ch.refl _ _ | exact (Ch.refl _ _).alloc _ | exact (Ch.refl _ _).drew | exact ((Ch.refl _ _).alloc _).alloc _ | exact ((Ch.refl _ _).alloc _).drew | exact (((Ch.refl _ _).alloc _).alloc _).alloc _ | exact (((Ch.refl _ _).alloc _).alloc _).drew | exact ((((Ch.refl _ _).alloc _).alloc _).alloc _).drew | exact ((((Ch.refl _ _).alloc _).alloc _).alloc _).alloc _ | exact (((((Ch.refl _ _).alloc _).alloc _).alloc _).alloc _).drew) hC
  have HC2 := Lib.hid (HC1.out.trans hCC)
  clear HC1
  have Bx := Lib.hid (Bp1.out.keep hCC (fun h => h))
  clear Bp1
  have Bp1 := Bx
  clear Bx
  have Bx := Lib.hid (Bp2.out.keep hCC (fun h => h))
  clear Bp2
  have Bp2 := Bx
  clear Bx
  clear hC hCC
  try clear xp10 xp11
  try clear xp1z
  have xp1z := Bp1.out.lt
  have xp10 := Bp1.out.cell 0
  have xp11 := Bp1.out.cell 1
  simp only [List.getElem?_toArray, List.getElem?_cons_zero, List.getElem?_cons_succ] at xp10 xp11
  try clear xp20 xp21
  try clear xp2z
  have xp2z := Bp2.out.lt
  have xp20 := Bp2.out.cell 0
  have xp21 := Bp2.out.cell 1
  simp only [List.getElem?_toArray, List.getElem?_cons_zero, List.getElem?_cons_succ] at xp20 xp21
  go_wp2_with fail
  obtain ⟨I0, hI0⟩ : ∃ I0 : (Nat → Bool) → Act → World → Prop, I0 = (fun D a' w' => (∃ x18 x19 x20 x21 x7 x8 : Value, a' = ({ tmps := #[(Value.agg #[Value.int IntKind.u64 ↑l1, Value.slice P1 m1 r1]), (Value.agg #[Value.int IntKind.u64 ↑l2, Value.slice P2 m2 r2]), (Value.int IntKind.u16 ↑u1), (Value.pointer (some { block := w.heap.size, off := 0 })), (Value.pointer (some { block := w.heap.size + 1, off := 0 })), undef, (Value.bool false), x7, x8, undef, (Value.agg #[Value.int IntKind.u64 ↑l1, Value.slice P1 m1 r1]), (Value.bool true), (Value.bool false), (Value.bool false), (Value.agg #[Value.int IntKind.u64 ↑l2, Value.slice P2 m2 r2]), (Value.bool true), (Value.bool false), (Value.bool false), x18, x19, x20, x21, undef, undef, undef, undef, undef, undef, undef, undef, undef, undef, undef, undef, undef, undef, undef, undef, undef, undef, undef, undef, undef, undef, undef, undef, undef, undef, undef, undef, undef, undef, undef, undef, undef, undef, undef, undef, undef], defers := [] } : Act) ∧ RM w2 w' D [x18, x19, x20, x21, x7, x8, undef, undef] [(fun _ _ => True), (fun L g => L ≤ 400), (fun _ _ => True), (fun L g => L ≤ 400), (fun _ _ => True), (fun _ _ => True), (fun _ _ => True), (fun _ _ => True)] [1, 3] [4, 5] [0, 0, 0, 0, 6, 7, 0, 0] [0, 0, 0, 0, 1, 3, 0, 0] ∧ (D 0 = true → x18 = .agg #[.int .u64 (l1 : Nat), .slice P1 m1 r1]) ∧ (D 2 = true → x20 = .agg #[.int .u64 (l2 : Nat), .slice P2 m2 r2]) ∧ (D 3 = true → D 1 = true))) := ⟨_, rfl⟩
  have HI := Lib.hid hI0
  clear hI0
  refine region_inv2 (by kernel_rfl) (by kernel_rfl) I0 ?_ ?_ ?_
  · rw [HI.out]; exact ⟨_, _, _, _, _, _, rfl, ⟨(Ch.refl S0 w2).drew, (fun _ _ h => by cases h), (fun _ _ h => by cases h), (fun _ _ _ _ h => by cases h), (fun _ _ _ _ _ h => by cases h), (fun _ _ h => by cases h)⟩, (fun h => by cases h), (fun h => by cases h), (fun h => by cases h)⟩
  · refine ⟨?_, ?_, ?_, ?_, ?_, ?_, ?_, ?_, trivial⟩
    · intro D a' w' hD hdep hI KK hKK
      rw [HI.out] at hI
      obtain ⟨x18, x19, x20, x21, x7, x8, rfl, hM, f0, f2, k3⟩ := hI
      simp [Region.binds] at hdep
      have K3 := Lib.hid k3
      clear k3
      have HM := Lib.hid hM
      clear hM
      have F0 := Lib.hid f0
      clear f0
      have F2 := Lib.hid f2
      clear f2
      have Bx := Bp1.out.keep HM.out.ch (fun h => h)
      have c0 : w'.cell? ⟨w.heap.size, 0, none⟩ = some (.int .u64 (l1 : Nat)) := by rw [Bx.cell]; rfl
      have c1 : w'.cell? ⟨w.heap.size, 1, none⟩ = some (.slice P1 m1 r1) := by rw [Bx.cell]; rfl
      clear Bx hdep
      go_wp2_with fail
      rw [HI.out]; exact ⟨_, _, _, _, _, _, rfl, HM.out.other (k := 0) (.agg #[.int .u64 (l1 : Nat), .slice P1 m1 r1]) (by decide) (by decide) (by decide) (by decide), fun _ => rfl, fun h => F2.out (upd_out h (by decide)), fun h => upd_mono (K3.out (upd_out h (by decide)))⟩
    · intro D a' w' hD hdep hI KK hKK
      rw [HI.out] at hI
      obtain ⟨x18, x19, x20, x21, x7, x8, rfl, hM, f0, f2, k3⟩ := hI
      simp [Region.binds] at hdep
      have K3 := Lib.hid k3
      clear k3
      have d0 : D 0 = true := by simp_all
      have HM := Lib.hid hM
      clear hM
      have F0 := Lib.hid f0
      clear f0
      have F2 := Lib.hid f2
      clear f2
      have e18 := F0.out d0
      subst e18
      clear hdep d0
      have HC := Lib.hid (HC2.out.trans HM.out.ch)
      go_wp2_with fail
      refine (bits_any l1 _ xs1 _ (IX1.out.keep HC.out) HX1.out (by rw [LX1.out]; omega)).mono ?_
      rintro e w2 ⟨v2, L2, g2, rfl, hL2, hV2, hC2⟩
      have HV2 := Lib.hid hV2
      have HC2 := Lib.hid hC2
      clear hV2 hC2
      go_wp2_with fail
      rw [HI.out]; exact ⟨_, _, _, _, _, _, rfl, HM.out.call (k := 1) (by simp) (by decide) (by decide) (by decide) hD HC2.out HV2.out (hL2), fun _ => rfl, fun h => F2.out (upd_out h (by decide)), fun h => upd_mono (K3.out (upd_out h (by decide)))⟩
    · intro D a' w' hD hdep hI KK hKK
      rw [HI.out] at hI
      obtain ⟨x18, x19, x20, x21, x7, x8, rfl, hM, f0, f2, k3⟩ := hI
      simp [Region.binds] at hdep
      have K3 := Lib.hid k3
      clear k3
      have HM := Lib.hid hM
      clear hM
      have F0 := Lib.hid f0
      clear f0
      have F2 := Lib.hid f2
      clear f2
      have Bx := Bp2.out.keep HM.out.ch (fun h => h)
      have c0 : w'.cell? ⟨w.heap.size + 1, 0, none⟩ = some (.int .u64 (l2 : Nat)) := by rw [Bx.cell]; rfl
      have c1 : w'.cell? ⟨w.heap.size + 1, 1, none⟩ = some (.slice P2 m2 r2) := by rw [Bx.cell]; rfl
      clear Bx hdep
      go_wp2_with fail
      rw [HI.out]; exact ⟨_, _, _, _, _, _, rfl, HM.out.other (k := 2) (.agg #[.int .u64 (l2 : Nat), .slice P2 m2 r2]) (by decide) (by decide) (by decide) (by decide), fun h => F0.out (upd_out h (by decide)), fun _ => rfl, fun h => upd_mono (K3.out (upd_out h (by decide)))⟩
    · intro D a' w' hD hdep hI KK hKK
      rw [HI.out] at hI
      obtain ⟨x18, x19, x20, x21, x7, x8, rfl, hM, f0, f2, k3⟩ := hI
      simp [Region.binds] at hdep
      have K3 := Lib.hid k3
      clear k3
      have ce : D 1 = true := by simp_all
      have CE := Lib.hid ce
      clear ce
      have d2 : D 2 = true := by simp_all
      have HM := Lib.hid hM
      clear hM
      have F0 := Lib.hid f0
      clear f0
      have F2 := Lib.hid f2
      clear f2
      have e20 := F2.out d2
      subst e20
      clear hdep d2
      have HC := Lib.hid (HC2.out.trans HM.out.ch)
      go_wp2_with fail
      refine (bits_any l2 _ xs2 _ (IX2.out.keep HC.out) HX2.out (by rw [LX2.out]; omega)).mono ?_
      rintro e w2 ⟨v2, L2, g2, rfl, hL2, hV2, hC2⟩
      have HV2 := Lib.hid hV2
      have HC2 := Lib.hid hC2
      clear hV2 hC2
      go_wp2_with fail
      rw [HI.out]; exact ⟨_, _, _, _, _, _, rfl, HM.out.call (k := 3) (by simp) (by decide) (by decide) (by decide) hD HC2.out HV2.out (hL2), fun h => F0.out (upd_out h (by decide)), fun _ => rfl, fun _ => upd_mono CE.out⟩
    · intro D a' w' hD hdep hI KK hKK
      rw [HI.out] at hI
      obtain ⟨x18, x19, x20, x21, x7, x8, rfl, hM, f0, f2, k3⟩ := hI
      simp [Region.binds] at hdep
      have K3 := Lib.hid k3
      clear k3
      have HM := Lib.hid hM
      clear hM
      have F0 := Lib.hid f0
      clear f0
      have F2 := Lib.hid f2
      clear f2
      clear hdep
      go_wp2_with fail
      rw [HI.out]; exact ⟨_, _, _, _, _, _, rfl, HM.out.alloc (k := 4) (by simp) (by decide) (by decide) (by decide) hD (by decide) 25, fun h => F0.out (upd_out h (by decide)), fun h => F2.out (upd_out h (by decide)), fun h => upd_mono (K3.out (upd_out h (by decide)))⟩
    · intro D a' w' hD hdep hI KK hKK
      rw [HI.out] at hI
      obtain ⟨x18, x19, x20, x21, x7, x8, rfl, hM, f0, f2, k3⟩ := hI
      simp [Region.binds] at hdep
      have K3 := Lib.hid k3
      clear k3
      have HM := Lib.hid hM
      clear hM
      have F0 := Lib.hid f0
      clear f0
      have F2 := Lib.hid f2
      clear f2
      clear hdep
      go_wp2_with fail
      rw [HI.out]; exact ⟨_, _, _, _, _, _, rfl, HM.out.alloc (k := 5) (by simp) (by decide) (by decide) (by decide) hD (by decide) 25, fun h => F0.out (upd_out h (by decide)), fun h => F2.out (upd_out h (by decide)), fun h => upd_mono (K3.out (upd_out h (by decide)))⟩
    · intro D a' w' hD hdep hI KK hKK
      rw [HI.out] at hI
      obtain ⟨x18, x19, x20, x21, x7, x8, rfl, hM, f0, f2, k3⟩ := hI
      simp [Region.binds] at hdep
      have K3 := Lib.hid k3
      clear k3
      have d3 : D 3 = true := by simp_all
      have d4 : D 4 = true := by simp_all
      have d5 : D 5 = true := by simp_all
      have d1 := K3.out d3
      have HM := Lib.hid hM
      clear hM
      have F0 := Lib.hid f0
      clear f0
      have F2 := Lib.hid f2
      clear f2
      have hall : ∀ j, j ∈ [1, 3] ∨ j ∈ [4, 5] → D j = true := fun j hj => by
        have : j = 1 ∨ j = 3 ∨ j = 4 ∨ j = 5 := by simp at hj; omega
        rcases this with rfl | rfl | rfl | rfl <;> assumption
      obtain ⟨b, hb, _, c0, c1, z0, z1⟩ := HM.out.before (i := 4) (by decide) d4 hD
      have hb : x7 = _ := hb
      subst hb
      obtain ⟨L, g, _, hV⟩ := HM.out.val 1 (by decide) d1
      have hV : IsB 0 w' x19 L g := hV
      obtain ⟨A, n, c, rfl⟩ := hV.shape
      clear hV
      have Hall := Lib.hid hall
      clear hall hdep d1 d3 d5
      have Dal := Lib.hid d4
      clear d4
      go_wp2_with fail
      rw [HI.out]; exact ⟨_, _, _, _, _, _, rfl, HM.out.store (i := 4) (k := 6) (by decide) Dal.out rfl hD (by decide) (by decide) (by decide) (by decide) Hall.out rfl rfl undef, fun h => F0.out (upd_out h (by decide)), fun h => F2.out (upd_out h (by decide)), fun h => upd_mono (K3.out (upd_out h (by decide)))⟩
    · intro D a' w' hD hdep hI KK hKK
      rw [HI.out] at hI
      obtain ⟨x18, x19, x20, x21, x7, x8, rfl, hM, f0, f2, k3⟩ := hI
      simp [Region.binds] at hdep
      have K3 := Lib.hid k3
      clear k3
      have dst : D 6 = true := by simp_all
      have HM := Lib.hid hM
      clear hM
      have F0 := Lib.hid f0
      clear f0
      have F2 := Lib.hid f2
      clear f2
      have hall := HM.out.closed 4 (by decide) dst
      have d5 := hall 5 (by decide)
      have d3 := hall 3 (by decide)
      clear dst
      obtain ⟨b, hb, _, c0, c1, z0, z1⟩ := HM.out.before (i := 5) (by decide) d5 hD
      have hb : x8 = _ := hb
      subst hb
      obtain ⟨L, g, _, hV⟩ := HM.out.val 3 (by decide) d3
      have hV : IsB 0 w' x21 L g := hV
      obtain ⟨A, n, c, rfl⟩ := hV.shape
      clear hV
      have Hall := Lib.hid hall
      clear hall hdep d3
      have Dal := Lib.hid d5
      clear d5
      go_wp2_with fail
      rw [HI.out]; exact ⟨_, _, _, _, _, _, rfl, HM.out.store (i := 5) (k := 7) (by decide) Dal.out rfl hD (by decide) (by decide) (by decide) (by decide) Hall.out rfl rfl undef, fun h => F0.out (upd_out h (by decide)), fun h => F2.out (upd_out h (by decide)), fun h => upd_mono (K3.out (upd_out h (by decide)))⟩
  intro D a' w3 hD hI
  rw [HI.out] at hI
  obtain ⟨x18, x19, x20, x21, x7, x8, rfl, hM, f0, f2, _⟩ := hI
  have e18 := f0 (hD 0 (by decide))
  subst e18
  clear f0
  have e20 := f2 (hD 2 (by decide))
  subst e20
  clear f2
  obtain ⟨L19, g19, hR19, hV19⟩ := hM.val 1 (by decide) (hD 1 (by decide))
  have hV19 : IsB 0 w3 x19 L19 g19 := hV19
  obtain ⟨L21, g21, hR21, hV21⟩ := hM.val 3 (by decide) (hD 3 (by decide))
  have hV21 : IsB 0 w3 x21 L21 g21 := hV21
  obtain ⟨b7, e1, _, _, _, h1⟩ := hM.ptr 4 (by decide) (hD 4 (by decide))
  have e1 : x7 = _ := e1
  subst e1
  obtain ⟨l1, u1, e2, B7⟩ := h1 (hD 6 (by decide))
  have e2 : x19 = _ := e2
  have e4 : ∃ A n cap, x19 = .agg #[.int .u64 L19, .slice A n cap] := hV19.shape
  obtain ⟨A19, n19, c19, e3⟩ := e4
  rw [e3] at e2
  simp only [Value.agg.injEq, Array.mk.injEq, List.cons.injEq, and_true] at e2
  obtain ⟨rfl, rfl⟩ := e2
  subst e3
  obtain ⟨b8, e1, _, _, _, h1⟩ := hM.ptr 5 (by decide) (hD 5 (by decide))
  have e1 : x8 = _ := e1
  subst e1
  obtain ⟨l1, u1, e2, B8⟩ := h1 (hD 7 (by decide))
  have e2 : x21 = _ := e2
  have e4 : ∃ A n cap, x21 = .agg #[.int .u64 L21, .slice A n cap] := hV21.shape
  obtain ⟨A21, n21, c21, e3⟩ := e4
  rw [e3] at e2
  simp only [Value.agg.injEq, Array.mk.injEq, List.cons.injEq, and_true] at e2
  obtain ⟨rfl, rfl⟩ := e2
  subst e3
  have HC3 := Lib.hid (HC2.out.trans hM.ch)
  have hCC : Ch S0 w2 w3 := hM.ch
  clear HC2 hM
  have Bx := Lib.hid (Bp1.out.keep hCC (fun h => h))
  clear Bp1
  have Bp1 := Bx
  clear Bx
  have Bx := Lib.hid (Bp2.out.keep hCC (fun h => h))
  clear Bp2
  have Bp2 := Bx
  clear Bx
  clear hCC
  have H19 : Hid (IsB 0 w3 (.agg #[.int .u64 (L19 : Nat), .slice A19 n19 c19]) L19 g19) := Lib.hid hV19
  clear hV19
  have HR19 : Hid ((fun (L : Nat) (g : Nat → Bool) => (fun L g => L ≤ 400) L g) L19 g19) := Lib.hid hR19
  clear hR19
  have H21 : Hid (IsB 0 w3 (.agg #[.int .u64 (L21 : Nat), .slice A21 n21 c21]) L21 g21) := Lib.hid hV21
  clear hV21
  have HR21 : Hid ((fun (L : Nat) (g : Nat → Bool) => (fun L g => L ≤ 400) L g) L21 g21) := Lib.hid hR21
  clear hR21
  have Bx := Lib.hid B7
  clear B7
  have B7 := Bx
  clear Bx
  have Bx := Lib.hid B8
  clear B8
  have B8 := Bx
  clear Bx
  clear hD HI
  try clear I0
  try clear xp10 xp11
  try clear xp1z
  have xp1z := Bp1.out.lt
  have xp10 := Bp1.out.cell 0
  have xp11 := Bp1.out.cell 1
  simp only [List.getElem?_toArray, List.getElem?_cons_zero, List.getElem?_cons_succ] at xp10 xp11
  try clear xp20 xp21
  try clear xp2z
  have xp2z := Bp2.out.lt
  have xp20 := Bp2.out.cell 0
  have xp21 := Bp2.out.cell 1
  simp only [List.getElem?_toArray, List.getElem?_cons_zero, List.getElem?_cons_succ] at xp20 xp21
  try clear x70 x71
  try clear x7z
  have x7z := B7.out.lt
  have x70 := B7.out.cell 0
  have x71 := B7.out.cell 1
  simp only [List.getElem?_toArray, List.getElem?_cons_zero, List.getElem?_cons_succ] at x70 x71
  try clear x80 x81
  try clear x8z
  have x8z := B8.out.lt
  have x80 := B8.out.cell 0
  have x81 := B8.out.cell 1
  simp only [List.getElem?_toArray, List.getElem?_cons_zero, List.getElem?_cons_succ] at x80 x81
  go_wp2_with fail
  refine (bsclone_any _ _ _ _ (H19.out.keep (by first | exact Ch.refl _ _ | exact (Ch.refl _ _).alloc _ | exact (Ch.refl _ _).drew | exact ((Ch.refl _ _).alloc _).alloc _ | exact ((Ch.refl _ _).alloc _).drew | exact (((Ch.refl _ _).alloc _).alloc _).alloc _ | exact (((Ch.refl _ _).alloc _).alloc _).drew | exact ((((Ch.refl _ _).alloc _).alloc _).alloc _).drew | exact ((((Ch.refl _ _).alloc _).alloc _).alloc _).alloc _ | exact (((((Ch.refl _ _).alloc _).alloc _).alloc _).alloc _).drew))).mono ?_
  rintro e w4 ⟨vc, rfl, hV, hC⟩
  obtain ⟨Lc, hE⟩ : ∃ x, x = L19 := ⟨_, rfl⟩
  rw [← hE] at hV
  have Ec := Lib.hid hE
  clear hE
  obtain ⟨Ac, nc, cc, rfl⟩ := hV.shape
  have hCC : Ch S0 w3 w4 := Ch.trans (by first | exact Ch.refl _ _ | exact (Ch.refl _ _).alloc _ | exact (Ch.refl _ _).drew | exact ((Ch.refl _ _).alloc _).alloc _ | exact ((Ch.refl _ _).alloc _).drew | exact (((Ch.refl _ _).alloc _).alloc _).alloc _ | exact (((Ch.refl _ _).alloc _).alloc _).drew | exact ((((Ch.refl _ _).alloc _).alloc _).alloc _).drew | exact ((((Ch.refl _ _).alloc _).alloc _).alloc _).alloc _ | exact (((((Ch.refl _ _).alloc _).alloc _).alloc _).alloc _).drew) hC
  have HC4 := Lib.hid (HC3.out.trans hCC)
  clear HC3
  have Hx := Lib.hid (H19.out.keep hCC)
  clear H19
  have H19 := Hx
  clear Hx
  have Hx := Lib.hid (H21.out.keep hCC)
  clear H21
  have H21 := Hx
  clear Hx
  have Bx := Lib.hid (Bp1.out.keep hCC (fun h => h))
  clear Bp1
  have Bp1 := Bx
  clear Bx
  have Bx := Lib.hid (Bp2.out.keep hCC (fun h => h))
  clear Bp2
  have Bp2 := Bx
  clear Bx
  have Bx := Lib.hid (B7.out.keep hCC (fun h => h))
  clear B7
  have B7 := Bx
  clear Bx
  have Bx := Lib.hid (B8.out.keep hCC (fun h => h))
  clear B8
  have B8 := Bx
  clear Bx
  have Hc := Lib.hid (hV.mono (base' := 0) (Nat.zero_le _))
  clear hV
  clear hC hCC
  try clear xp10 xp11
  try clear xp1z
  have xp1z := Bp1.out.lt
  have xp10 := Bp1.out.cell 0
  have xp11 := Bp1.out.cell 1
  simp only [List.getElem?_toArray, List.getElem?_cons_zero, List.getElem?_cons_succ] at xp10 xp11
  try clear xp20 xp21
  try clear xp2z
  have xp2z := Bp2.out.lt
  have xp20 := Bp2.out.cell 0
  have xp21 := Bp2.out.cell 1
  simp only [List.getElem?_toArray, List.getElem?_cons_zero, List.getElem?_cons_succ] at xp20 xp21
  try clear x70 x71
  try clear x7z
  have x7z := B7.out.lt
  have x70 := B7.out.cell 0
  have x71 := B7.out.cell 1
  simp only [List.getElem?_toArray, List.getElem?_cons_zero, List.getElem?_cons_succ] at x70 x71
  try clear x80 x81
  try clear x8z
  have x8z := B8.out.lt
  have x80 := B8.out.cell 0
  have x81 := B8.out.cell 1
  simp only [List.getElem?_toArray, List.getElem?_cons_zero, List.getElem?_cons_succ] at x80 x81
  go_wp2_with fail
  have B9 : Hid (Blk (w4.alloc (Obj.cells #[.int .u64 (Lc : Nat), .slice Ac nc cc] 25)) (w4.heap.size) #[.int .u64 (Lc : Nat), .slice Ac nc cc]) := Lib.hid (Blk.new _ _ _)
  have hCC : Ch S0 w4 (w4.alloc (Obj.cells #[.int .u64 (Lc : Nat), .slice Ac nc cc] 25)) := (Ch.refl _ _).alloc _
  have HC5 := Lib.hid (HC4.out.trans hCC)
  have Hx := Lib.hid (H19.out.keep hCC)
  clear H19
  have H19 := Hx
  clear Hx
  have Hx := Lib.hid (H21.out.keep hCC)
  clear H21
  have H21 := Hx
  clear Hx
  have Hx := Lib.hid (Hc.out.keep hCC)
  clear Hc
  have Hc := Hx
  clear Hx
  have Bx := Lib.hid (Bp1.out.keep hCC (fun h => h))
  clear Bp1
  have Bp1 := Bx
  clear Bx
  have Bx := Lib.hid (Bp2.out.keep hCC (fun h => h))
  clear Bp2
  have Bp2 := Bx
  clear Bx
  have Bx := Lib.hid (B7.out.keep hCC (fun h => h))
  clear B7
  have B7 := Bx
  clear Bx
  have Bx := Lib.hid (B8.out.keep hCC (fun h => h))
  clear B8
  have B8 := Bx
  clear Bx
  clear hCC HC4
  try clear xp10 xp11
  try clear xp20 xp21
  try clear x70 x71
  try clear x80 x81
  try clear xp1z
  try clear xp2z
  try clear x7z
  try clear x8z
  generalize w4.alloc (Obj.cells #[.int .u64 (Lc : Nat), .slice Ac nc cc] 25) = w5 at *
  generalize w4.heap.size = b9 at *
  have xp10 := Bp1.out.cell 0
  have xp11 := Bp1.out.cell 1
  simp only [List.getElem?_toArray, List.getElem?_cons_zero, List.getElem?_cons_succ] at xp10 xp11
  have xp20 := Bp2.out.cell 0
  have xp21 := Bp2.out.cell 1
  simp only [List.getElem?_toArray, List.getElem?_cons_zero, List.getElem?_cons_succ] at xp20 xp21
  have x70 := B7.out.cell 0
  have x71 := B7.out.cell 1
  simp only [List.getElem?_toArray, List.getElem?_cons_zero, List.getElem?_cons_succ] at x70 x71
  have x80 := B8.out.cell 0
  have x81 := B8.out.cell 1
  simp only [List.getElem?_toArray, List.getElem?_cons_zero, List.getElem?_cons_succ] at x80 x81
  have x90 := B9.out.cell 0
  have x91 := B9.out.cell 1
  simp only [List.getElem?_toArray, List.getElem?_cons_zero, List.getElem?_cons_succ] at x90 x91
  have hl19 : L19 ≤ 400 := HR19.out
  have HL19 := Lib.hid hl19
  have EQ1 := Lib.hid (equal_yes L19 g19 (by omega))
  have qf : max L19 ((u1 % 400) + 1) ≠ L19 ∨ ∃ k, k < max L19 ((u1 % 400) + 1) ∧ Bit.put g19 (u1 % 400) (!g19 (u1 % 400)) k ≠ g19 k := Or.inr ⟨(u1 % 400), by omega, by simp [Bit.put]⟩
  have EQ2 := Lib.hid (equal_diff (max L19 ((u1 % 400) + 1)) L19 (Bit.put g19 (u1 % 400) (!g19 (u1 % 400))) g19 (by omega) qf)
  have EQ3 := Lib.hid (equal_diff 401 L19 (delR (shR (Bit.put g19 400 true) 1) 0) g19 (by omega) (Or.inl (by omega)))
  have qw : (IntKind.u64.wrap (u1 : Int)).tmod 400 = ((u1 % 400 : Nat) : Int) := by rw [IntKind.wrap_u64, Int.tmod_eq_emod_of_nonneg (by omega)]; omega
  have QW := Lib.hid qw
  clear hl19 qf qw
  go_wp2_with fail
  go_region_held3 (fun w' => w'.cell? ⟨b7, 0, none⟩ = some (.int .u64 (L19 : Nat)) ∧ w'.cell? ⟨b7, 1, none⟩ = some (.slice A19 n19 c19) ∧ w'.cell? ⟨b8, 0, none⟩ = some (.int .u64 (L21 : Nat)) ∧ w'.cell? ⟨b8, 1, none⟩ = some (.slice A21 n21 c21) ∧ w'.cell? ⟨b9, 0, none⟩ = some (.int .u64 (Lc : Nat)) ∧ w'.cell? ⟨b9, 1, none⟩ = some (.slice Ac nc cc))
    (first | ((try dsimp only); (repeat' apply And.intro) <;> assumption) | (go_keep; done))
    (first
      | (go_at_call 35
         (with_reducible refine (bsequal_any _ _ _ _ _ _ true _ (H19.out.keep (by first | exact Ch.refl _ _ | exact (Ch.refl _ _).alloc _ | exact (Ch.refl _ _).drew | exact ((Ch.refl _ _).alloc _).alloc _ | exact ((Ch.refl _ _).alloc _).drew | exact (((Ch.refl _ _).alloc _).alloc _).alloc _ | exact (((Ch.refl _ _).alloc _).alloc _).drew | exact ((((Ch.refl _ _).alloc _).alloc _).alloc _).drew | exact ((((Ch.refl _ _).alloc _).alloc _).alloc _).alloc _ | exact (((((Ch.refl _ _).alloc _).alloc _).alloc _).alloc _).drew)) ((Hc.out.keep (by first | exact Ch.refl _ _ | exact (Ch.refl _ _).alloc _ | exact (Ch.refl _ _).drew | exact ((Ch.refl _ _).alloc _).alloc _ | exact ((Ch.refl _ _).alloc _).drew | exact (((Ch.refl _ _).alloc _).alloc _).alloc _ | exact (((Ch.refl _ _).alloc _).alloc _).drew | exact ((((Ch.refl _ _).alloc _).alloc _).alloc _).drew | exact ((((Ch.refl _ _).alloc _).alloc _).alloc _).alloc _ | exact (((((Ch.refl _ _).alloc _).alloc _).alloc _).alloc _).drew)).cast Ec.out (fun _ => rfl)) EQ1.out).mono ?_)
         rintro e w6 ⟨rfl, hC⟩
         have hCC : Ch S0 w5 w6 := Ch.trans (by first | exact Ch.refl _ _ | exact (Ch.refl _ _).alloc _ | exact (Ch.refl _ _).drew | exact ((Ch.refl _ _).alloc _).alloc _ | exact ((Ch.refl _ _).alloc _).drew | exact (((Ch.refl _ _).alloc _).alloc _).alloc _ | exact (((Ch.refl _ _).alloc _).alloc _).drew | exact ((((Ch.refl _ _).alloc _).alloc _).alloc _).drew | exact ((((Ch.refl _ _).alloc _).alloc _).alloc _).alloc _ | exact (((((Ch.refl _ _).alloc _).alloc _).alloc _).alloc _).drew) hC
         have HC6 := Lib.hid (HC5.out.trans hCC)
         clear HC5
         have Hx := Lib.hid (H19.out.keep hCC)
         clear H19
         have H19 := Hx
         clear Hx
         have Hx := Lib.hid (H21.out.keep hCC)
         clear H21
         have H21 := Hx
         clear Hx
         have Hx := Lib.hid (Hc.out.keep hCC)
         clear Hc
         have Hc := Hx
         clear Hx
         have Bx := Lib.hid (Bp1.out.keep hCC (fun h => h))
         clear Bp1
         have Bp1 := Bx
         clear Bx
         have Bx := Lib.hid (Bp2.out.keep hCC (fun h => h))
         clear Bp2
         have Bp2 := Bx
         clear Bx
         have Bx := Lib.hid (B7.out.keep hCC (fun h => h))
         clear B7
         have B7 := Bx
         clear Bx
         have Bx := Lib.hid (B8.out.keep hCC (fun h => h))
         clear B8
         have B8 := Bx
         clear Bx
         have Bx := Lib.hid (B9.out.keep hCC (fun h => h))
         clear B9
         have B9 := Bx
         clear Bx
         clear hC hCC
         try clear xp10 xp11
         try clear xp1z
         have xp1z := Bp1.out.lt
         have xp10 := Bp1.out.cell 0
         have xp11 := Bp1.out.cell 1
         simp only [List.getElem?_toArray, List.getElem?_cons_zero, List.getElem?_cons_succ] at xp10 xp11
         try clear xp20 xp21
         try clear xp2z
         have xp2z := Bp2.out.lt
         have xp20 := Bp2.out.cell 0
         have xp21 := Bp2.out.cell 1
         simp only [List.getElem?_toArray, List.getElem?_cons_zero, List.getElem?_cons_succ] at xp20 xp21
         try clear x70 x71
         try clear x7z
         have x7z := B7.out.lt
         have x70 := B7.out.cell 0
         have x71 := B7.out.cell 1
         simp only [List.getElem?_toArray, List.getElem?_cons_zero, List.getElem?_cons_succ] at x70 x71
         try clear x80 x81
         try clear x8z
         have x8z := B8.out.lt
         have x80 := B8.out.cell 0
         have x81 := B8.out.cell 1
         simp only [List.getElem?_toArray, List.getElem?_cons_zero, List.getElem?_cons_succ] at x80 x81
         try clear x90 x91
         try clear x9z
         have x9z := B9.out.lt
         have x90 := B9.out.cell 0
         have x91 := B9.out.cell 1
         simp only [List.getElem?_toArray, List.getElem?_cons_zero, List.getElem?_cons_succ] at x90 x91)
      | (go_at_call 36
         (with_reducible refine (bscopyfull_any _ _ _ _ _ _ _ (H19.out.keep (by first | exact Ch.refl _ _ | exact (Ch.refl _ _).alloc _ | exact (Ch.refl _ _).drew | exact ((Ch.refl _ _).alloc _).alloc _ | exact ((Ch.refl _ _).alloc _).drew | exact (((Ch.refl _ _).alloc _).alloc _).alloc _ | exact (((Ch.refl _ _).alloc _).alloc _).drew | exact ((((Ch.refl _ _).alloc _).alloc _).alloc _).drew | exact ((((Ch.refl _ _).alloc _).alloc _).alloc _).alloc _ | exact (((((Ch.refl _ _).alloc _).alloc _).alloc _).alloc _).drew)) (H21.out.keep (by first | exact Ch.refl _ _ | exact (Ch.refl _ _).alloc _ | exact (Ch.refl _ _).drew | exact ((Ch.refl _ _).alloc _).alloc _ | exact ((Ch.refl _ _).alloc _).drew | exact (((Ch.refl _ _).alloc _).alloc _).alloc _ | exact (((Ch.refl _ _).alloc _).alloc _).drew | exact ((((Ch.refl _ _).alloc _).alloc _).alloc _).drew | exact ((((Ch.refl _ _).alloc _).alloc _).alloc _).alloc _ | exact (((((Ch.refl _ _).alloc _).alloc _).alloc _).alloc _).drew))).mono ?_)
         rintro e w7 ⟨vd, rfl, hV, hC⟩
         obtain ⟨Ld, hE⟩ : ∃ x, x = L19 := ⟨_, rfl⟩
         rw [← hE] at hV
         have Ed := Lib.hid hE
         clear hE
         obtain ⟨Ad, nd, cd, rfl⟩ := hV.shape
         have hCC : Ch S0 w6 w7 := Ch.trans (by first | exact Ch.refl _ _ | exact (Ch.refl _ _).alloc _ | exact (Ch.refl _ _).drew | exact ((Ch.refl _ _).alloc _).alloc _ | exact ((Ch.refl _ _).alloc _).drew | exact (((Ch.refl _ _).alloc _).alloc _).alloc _ | exact (((Ch.refl _ _).alloc _).alloc _).drew | exact ((((Ch.refl _ _).alloc _).alloc _).alloc _).drew | exact ((((Ch.refl _ _).alloc _).alloc _).alloc _).alloc _ | exact (((((Ch.refl _ _).alloc _).alloc _).alloc _).alloc _).drew) hC
         have HC7 := Lib.hid (HC6.out.trans hCC)
         clear HC6
         have Hx := Lib.hid (H19.out.keep hCC)
         clear H19
         have H19 := Hx
         clear Hx
         have Hx := Lib.hid (H21.out.keep hCC)
         clear H21
         have H21 := Hx
         clear Hx
         have Hx := Lib.hid (Hc.out.keep hCC)
         clear Hc
         have Hc := Hx
         clear Hx
         have Bx := Lib.hid (Bp1.out.keep hCC (fun h => h))
         clear Bp1
         have Bp1 := Bx
         clear Bx
         have Bx := Lib.hid (Bp2.out.keep hCC (fun h => h))
         clear Bp2
         have Bp2 := Bx
         clear Bx
         have Bx := Lib.hid (B7.out.keep hCC (fun h => h))
         clear B7
         have B7 := Bx
         clear Bx
         have Bx := Lib.hid (B8.out.keep hCC (fun h => h))
         clear B8
         have B8 := Bx
         clear Bx
         have Bx := Lib.hid (B9.out.keep hCC (fun h => h))
         clear B9
         have B9 := Bx
         clear Bx
         have Hd := Lib.hid (hV.mono (base' := 0) (Nat.zero_le _))
         clear hV
         clear hC hCC
         try clear xp10 xp11
         try clear xp1z
         have xp1z := Bp1.out.lt
         have xp10 := Bp1.out.cell 0
         have xp11 := Bp1.out.cell 1
         simp only [List.getElem?_toArray, List.getElem?_cons_zero, List.getElem?_cons_succ] at xp10 xp11
         try clear xp20 xp21
         try clear xp2z
         have xp2z := Bp2.out.lt
         have xp20 := Bp2.out.cell 0
         have xp21 := Bp2.out.cell 1
         simp only [List.getElem?_toArray, List.getElem?_cons_zero, List.getElem?_cons_succ] at xp20 xp21
         try clear x70 x71
         try clear x7z
         have x7z := B7.out.lt
         have x70 := B7.out.cell 0
         have x71 := B7.out.cell 1
         simp only [List.getElem?_toArray, List.getElem?_cons_zero, List.getElem?_cons_succ] at x70 x71
         try clear x80 x81
         try clear x8z
         have x8z := B8.out.lt
         have x80 := B8.out.cell 0
         have x81 := B8.out.cell 1
         simp only [List.getElem?_toArray, List.getElem?_cons_zero, List.getElem?_cons_succ] at x80 x81
         try clear x90 x91
         try clear x9z
         have x9z := B9.out.lt
         have x90 := B9.out.cell 0
         have x91 := B9.out.cell 1
         simp only [List.getElem?_toArray, List.getElem?_cons_zero, List.getElem?_cons_succ] at x90 x91)
      | (go_at_call 35
         (with_reducible refine (bsequal_any _ _ _ _ _ _ true _ ((Hd.out.keep (by first | exact Ch.refl _ _ | exact (Ch.refl _ _).alloc _ | exact (Ch.refl _ _).drew | exact ((Ch.refl _ _).alloc _).alloc _ | exact ((Ch.refl _ _).alloc _).drew | exact (((Ch.refl _ _).alloc _).alloc _).alloc _ | exact (((Ch.refl _ _).alloc _).alloc _).drew | exact ((((Ch.refl _ _).alloc _).alloc _).alloc _).drew | exact ((((Ch.refl _ _).alloc _).alloc _).alloc _).alloc _ | exact (((((Ch.refl _ _).alloc _).alloc _).alloc _).alloc _).drew)).cast Ed.out (fun _ => rfl)) (H19.out.keep (by first | exact Ch.refl _ _ | exact (Ch.refl _ _).alloc _ | exact (Ch.refl _ _).drew | exact ((Ch.refl _ _).alloc _).alloc _ | exact ((Ch.refl _ _).alloc _).drew | exact (((Ch.refl _ _).alloc _).alloc _).alloc _ | exact (((Ch.refl _ _).alloc _).alloc _).drew | exact ((((Ch.refl _ _).alloc _).alloc _).alloc _).drew | exact ((((Ch.refl _ _).alloc _).alloc _).alloc _).alloc _ | exact (((((Ch.refl _ _).alloc _).alloc _).alloc _).alloc _).drew)) EQ1.out).mono ?_)
         rintro e w8 ⟨rfl, hC⟩
         have hCC : Ch S0 w7 w8 := Ch.trans (by first | exact Ch.refl _ _ | exact (Ch.refl _ _).alloc _ | exact (Ch.refl _ _).drew | exact ((Ch.refl _ _).alloc _).alloc _ | exact ((Ch.refl _ _).alloc _).drew | exact (((Ch.refl _ _).alloc _).alloc _).alloc _ | exact (((Ch.refl _ _).alloc _).alloc _).drew | exact ((((Ch.refl _ _).alloc _).alloc _).alloc _).drew | exact ((((Ch.refl _ _).alloc _).alloc _).alloc _).alloc _ | exact (((((Ch.refl _ _).alloc _).alloc _).alloc _).alloc _).drew) hC
         have HC8 := Lib.hid (HC7.out.trans hCC)
         clear HC7
         have Hx := Lib.hid (H19.out.keep hCC)
         clear H19
         have H19 := Hx
         clear Hx
         have Hx := Lib.hid (H21.out.keep hCC)
         clear H21
         have H21 := Hx
         clear Hx
         have Hx := Lib.hid (Hc.out.keep hCC)
         clear Hc
         have Hc := Hx
         clear Hx
         have Hx := Lib.hid (Hd.out.keep hCC)
         clear Hd
         have Hd := Hx
         clear Hx
         have Bx := Lib.hid (Bp1.out.keep hCC (fun h => h))
         clear Bp1
         have Bp1 := Bx
         clear Bx
         have Bx := Lib.hid (Bp2.out.keep hCC (fun h => h))
         clear Bp2
         have Bp2 := Bx
         clear Bx
         have Bx := Lib.hid (B7.out.keep hCC (fun h => h))
         clear B7
         have B7 := Bx
         clear Bx
         have Bx := Lib.hid (B8.out.keep hCC (fun h => h))
         clear B8
         have B8 := Bx
         clear Bx
         have Bx := Lib.hid (B9.out.keep hCC (fun h => h))
         clear B9
         have B9 := Bx
         clear Bx
         clear hC hCC
         try clear xp10 xp11
         try clear xp1z
         have xp1z := Bp1.out.lt
         have xp10 := Bp1.out.cell 0
         have xp11 := Bp1.out.cell 1
         simp only [List.getElem?_toArray, List.getElem?_cons_zero, List.getElem?_cons_succ] at xp10 xp11
         try clear xp20 xp21
         try clear xp2z
         have xp2z := Bp2.out.lt
         have xp20 := Bp2.out.cell 0
         have xp21 := Bp2.out.cell 1
         simp only [List.getElem?_toArray, List.getElem?_cons_zero, List.getElem?_cons_succ] at xp20 xp21
         try clear x70 x71
         try clear x7z
         have x7z := B7.out.lt
         have x70 := B7.out.cell 0
         have x71 := B7.out.cell 1
         simp only [List.getElem?_toArray, List.getElem?_cons_zero, List.getElem?_cons_succ] at x70 x71
         try clear x80 x81
         try clear x8z
         have x8z := B8.out.lt
         have x80 := B8.out.cell 0
         have x81 := B8.out.cell 1
         simp only [List.getElem?_toArray, List.getElem?_cons_zero, List.getElem?_cons_succ] at x80 x81
         try clear x90 x91
         try clear x9z
         have x9z := B9.out.lt
         have x90 := B9.out.cell 0
         have x91 := B9.out.cell 1
         simp only [List.getElem?_toArray, List.getElem?_cons_zero, List.getElem?_cons_succ] at x90 x91)
      | (go_at_call 25
         (with_reducible refine (bsflip_any _ _ _ _ (H19.out.keep (by first | exact Ch.refl _ _ | exact (Ch.refl _ _).alloc _ | exact (Ch.refl _ _).drew | exact ((Ch.refl _ _).alloc _).alloc _ | exact ((Ch.refl _ _).alloc _).drew | exact (((Ch.refl _ _).alloc _).alloc _).alloc _ | exact (((Ch.refl _ _).alloc _).alloc _).drew | exact ((((Ch.refl _ _).alloc _).alloc _).alloc _).drew | exact ((((Ch.refl _ _).alloc _).alloc _).alloc _).alloc _ | exact (((((Ch.refl _ _).alloc _).alloc _).alloc _).alloc _).drew)) (u1 % 400) _ (by first | omega | exact QW.out) (by omega)).mono ?_)
         rintro e w9 ⟨vf, rfl, hV, hC⟩
         obtain ⟨Lf, hE⟩ : ∃ x, x = max L19 ((u1 % 400) + 1) := ⟨_, rfl⟩
         rw [← hE] at hV
         have Ef := Lib.hid hE
         clear hE
         obtain ⟨Af, nf, cf, rfl⟩ := hV.shape
         have hCC : Ch S0 w8 w9 := Ch.trans (by first | exact Ch.refl _ _ | exact (Ch.refl _ _).alloc _ | exact (Ch.refl _ _).drew | exact ((Ch.refl _ _).alloc _).alloc _ | exact ((Ch.refl _ _).alloc _).drew | exact (((Ch.refl _ _).alloc _).alloc _).alloc _ | exact (((Ch.refl _ _).alloc _).alloc _).drew | exact ((((Ch.refl _ _).alloc _).alloc _).alloc _).drew | exact ((((Ch.refl _ _).alloc _).alloc _).alloc _).alloc _ | exact (((((Ch.refl _ _).alloc _).alloc _).alloc _).alloc _).drew) hC
         have HC9 := Lib.hid (HC8.out.trans hCC)
         clear HC8
         have Hx := Lib.hid (H19.out.keep hCC)
         clear H19
         have H19 := Hx
         clear Hx
         have Hx := Lib.hid (H21.out.keep hCC)
         clear H21
         have H21 := Hx
         clear Hx
         have Hx := Lib.hid (Hc.out.keep hCC)
         clear Hc
         have Hc := Hx
         clear Hx
         have Hx := Lib.hid (Hd.out.keep hCC)
         clear Hd
         have Hd := Hx
         clear Hx
         have Bx := Lib.hid (Bp1.out.keep hCC (fun h => h))
         clear Bp1
         have Bp1 := Bx
         clear Bx
         have Bx := Lib.hid (Bp2.out.keep hCC (fun h => h))
         clear Bp2
         have Bp2 := Bx
         clear Bx
         have Bx := Lib.hid (B7.out.keep hCC (fun h => h))
         clear B7
         have B7 := Bx
         clear Bx
         have Bx := Lib.hid (B8.out.keep hCC (fun h => h))
         clear B8
         have B8 := Bx
         clear Bx
         have Bx := Lib.hid (B9.out.keep hCC (fun h => h))
         clear B9
         have B9 := Bx
         clear Bx
         have Hf := Lib.hid (hV.mono (base' := 0) (Nat.zero_le _))
         clear hV
         clear hC hCC
         try clear xp10 xp11
         try clear xp1z
         have xp1z := Bp1.out.lt
         have xp10 := Bp1.out.cell 0
         have xp11 := Bp1.out.cell 1
         simp only [List.getElem?_toArray, List.getElem?_cons_zero, List.getElem?_cons_succ] at xp10 xp11
         try clear xp20 xp21
         try clear xp2z
         have xp2z := Bp2.out.lt
         have xp20 := Bp2.out.cell 0
         have xp21 := Bp2.out.cell 1
         simp only [List.getElem?_toArray, List.getElem?_cons_zero, List.getElem?_cons_succ] at xp20 xp21
         try clear x70 x71
         try clear x7z
         have x7z := B7.out.lt
         have x70 := B7.out.cell 0
         have x71 := B7.out.cell 1
         simp only [List.getElem?_toArray, List.getElem?_cons_zero, List.getElem?_cons_succ] at x70 x71
         try clear x80 x81
         try clear x8z
         have x8z := B8.out.lt
         have x80 := B8.out.cell 0
         have x81 := B8.out.cell 1
         simp only [List.getElem?_toArray, List.getElem?_cons_zero, List.getElem?_cons_succ] at x80 x81
         try clear x90 x91
         try clear x9z
         have x9z := B9.out.lt
         have x90 := B9.out.cell 0
         have x91 := B9.out.cell 1
         simp only [List.getElem?_toArray, List.getElem?_cons_zero, List.getElem?_cons_succ] at x90 x91)
      | (go_at_call 35
         (with_reducible refine (bsequal_any _ _ _ _ _ _ false _ ((Hf.out.keep (by first | exact Ch.refl _ _ | exact (Ch.refl _ _).alloc _ | exact (Ch.refl _ _).drew | exact ((Ch.refl _ _).alloc _).alloc _ | exact ((Ch.refl _ _).alloc _).drew | exact (((Ch.refl _ _).alloc _).alloc _).alloc _ | exact (((Ch.refl _ _).alloc _).alloc _).drew | exact ((((Ch.refl _ _).alloc _).alloc _).alloc _).drew | exact ((((Ch.refl _ _).alloc _).alloc _).alloc _).alloc _ | exact (((((Ch.refl _ _).alloc _).alloc _).alloc _).alloc _).drew)).cast Ef.out (fun _ => rfl)) (H19.out.keep (by first | exact Ch.refl _ _ | exact (Ch.refl _ _).alloc _ | exact (Ch.refl _ _).drew | exact ((Ch.refl _ _).alloc _).alloc _ | exact ((Ch.refl _ _).alloc _).drew | exact (((Ch.refl _ _).alloc _).alloc _).alloc _ | exact (((Ch.refl _ _).alloc _).alloc _).drew | exact ((((Ch.refl _ _).alloc _).alloc _).alloc _).drew | exact ((((Ch.refl _ _).alloc _).alloc _).alloc _).alloc _ | exact (((((Ch.refl _ _).alloc _).alloc _).alloc _).alloc _).drew)) EQ2.out).mono ?_)
         rintro e w10 ⟨rfl, hC⟩
         have hCC : Ch S0 w9 w10 := Ch.trans (by first | exact Ch.refl _ _ | exact (Ch.refl _ _).alloc _ | exact (Ch.refl _ _).drew | exact ((Ch.refl _ _).alloc _).alloc _ | exact ((Ch.refl _ _).alloc _).drew | exact (((Ch.refl _ _).alloc _).alloc _).alloc _ | exact (((Ch.refl _ _).alloc _).alloc _).drew | exact ((((Ch.refl _ _).alloc _).alloc _).alloc _).drew | exact ((((Ch.refl _ _).alloc _).alloc _).alloc _).alloc _ | exact (((((Ch.refl _ _).alloc _).alloc _).alloc _).alloc _).drew) hC
         have HC10 := Lib.hid (HC9.out.trans hCC)
         clear HC9
         have Hx := Lib.hid (H19.out.keep hCC)
         clear H19
         have H19 := Hx
         clear Hx
         have Hx := Lib.hid (H21.out.keep hCC)
         clear H21
         have H21 := Hx
         clear Hx
         have Hx := Lib.hid (Hc.out.keep hCC)
         clear Hc
         have Hc := Hx
         clear Hx
         have Hx := Lib.hid (Hd.out.keep hCC)
         clear Hd
         have Hd := Hx
         clear Hx
         have Hx := Lib.hid (Hf.out.keep hCC)
         clear Hf
         have Hf := Hx
         clear Hx
         have Bx := Lib.hid (Bp1.out.keep hCC (fun h => h))
         clear Bp1
         have Bp1 := Bx
         clear Bx
         have Bx := Lib.hid (Bp2.out.keep hCC (fun h => h))
         clear Bp2
         have Bp2 := Bx
         clear Bx
         have Bx := Lib.hid (B7.out.keep hCC (fun h => h))
         clear B7
         have B7 := Bx
         clear Bx
         have Bx := Lib.hid (B8.out.keep hCC (fun h => h))
         clear B8
         have B8 := Bx
         clear Bx
         have Bx := Lib.hid (B9.out.keep hCC (fun h => h))
         clear B9
         have B9 := Bx
         clear Bx
         clear hC hCC
         try clear xp10 xp11
         try clear xp1z
         have xp1z := Bp1.out.lt
         have xp10 := Bp1.out.cell 0
         have xp11 := Bp1.out.cell 1
         simp only [List.getElem?_toArray, List.getElem?_cons_zero, List.getElem?_cons_succ] at xp10 xp11
         try clear xp20 xp21
         try clear xp2z
         have xp2z := Bp2.out.lt
         have xp20 := Bp2.out.cell 0
         have xp21 := Bp2.out.cell 1
         simp only [List.getElem?_toArray, List.getElem?_cons_zero, List.getElem?_cons_succ] at xp20 xp21
         try clear x70 x71
         try clear x7z
         have x7z := B7.out.lt
         have x70 := B7.out.cell 0
         have x71 := B7.out.cell 1
         simp only [List.getElem?_toArray, List.getElem?_cons_zero, List.getElem?_cons_succ] at x70 x71
         try clear x80 x81
         try clear x8z
         have x8z := B8.out.lt
         have x80 := B8.out.cell 0
         have x81 := B8.out.cell 1
         simp only [List.getElem?_toArray, List.getElem?_cons_zero, List.getElem?_cons_succ] at x80 x81
         try clear x90 x91
         try clear x9z
         have x9z := B9.out.lt
         have x90 := B9.out.cell 0
         have x91 := B9.out.cell 1
         simp only [List.getElem?_toArray, List.getElem?_cons_zero, List.getElem?_cons_succ] at x90 x91)
      | (go_at_call 19
         (with_reducible refine (bssymdiff_any _ _ _ _ _ _ _ (H19.out.keep (by first | exact Ch.refl _ _ | exact (Ch.refl _ _).alloc _ | exact (Ch.refl _ _).drew | exact ((Ch.refl _ _).alloc _).alloc _ | exact ((Ch.refl _ _).alloc _).drew | exact (((Ch.refl _ _).alloc _).alloc _).alloc _ | exact (((Ch.refl _ _).alloc _).alloc _).drew | exact ((((Ch.refl _ _).alloc _).alloc _).alloc _).drew | exact ((((Ch.refl _ _).alloc _).alloc _).alloc _).alloc _ | exact (((((Ch.refl _ _).alloc _).alloc _).alloc _).alloc _).drew)) (Hc.out.keep (by first | exact Ch.refl _ _ | exact (Ch.refl _ _).alloc _ | exact (Ch.refl _ _).drew | exact ((Ch.refl _ _).alloc _).alloc _ | exact ((Ch.refl _ _).alloc _).drew | exact (((Ch.refl _ _).alloc _).alloc _).alloc _ | exact (((Ch.refl _ _).alloc _).alloc _).drew | exact ((((Ch.refl _ _).alloc _).alloc _).alloc _).drew | exact ((((Ch.refl _ _).alloc _).alloc _).alloc _).alloc _ | exact (((((Ch.refl _ _).alloc _).alloc _).alloc _).alloc _).drew))).mono ?_)
         rintro e w11 ⟨vs, rfl, hV, hC⟩
         obtain ⟨Ls, hE⟩ : ∃ x, x = max L19 Lc := ⟨_, rfl⟩
         rw [← hE] at hV
         have Es := Lib.hid hE
         clear hE
         obtain ⟨As, ns, cs, rfl⟩ := hV.shape
         have hCC : Ch S0 w10 w11 := Ch.trans (by first | exact Ch.refl _ _ | exact (Ch.refl _ _).alloc _ | exact (Ch.refl _ _).drew | exact ((Ch.refl _ _).alloc _).alloc _ | exact ((Ch.refl _ _).alloc _).drew | exact (((Ch.refl _ _).alloc _).alloc _).alloc _ | exact (((Ch.refl _ _).alloc _).alloc _).drew | exact ((((Ch.refl _ _).alloc _).alloc _).alloc _).drew | exact ((((Ch.refl _ _).alloc _).alloc _).alloc _).alloc _ | exact (((((Ch.refl _ _).alloc _).alloc _).alloc _).alloc _).drew) hC
         have HC11 := Lib.hid (HC10.out.trans hCC)
         clear HC10
         have Hx := Lib.hid (H19.out.keep hCC)
         clear H19
         have H19 := Hx
         clear Hx
         have Hx := Lib.hid (H21.out.keep hCC)
         clear H21
         have H21 := Hx
         clear Hx
         have Hx := Lib.hid (Hc.out.keep hCC)
         clear Hc
         have Hc := Hx
         clear Hx
         have Hx := Lib.hid (Hd.out.keep hCC)
         clear Hd
         have Hd := Hx
         clear Hx
         have Hx := Lib.hid (Hf.out.keep hCC)
         clear Hf
         have Hf := Hx
         clear Hx
         have Bx := Lib.hid (Bp1.out.keep hCC (fun h => h))
         clear Bp1
         have Bp1 := Bx
         clear Bx
         have Bx := Lib.hid (Bp2.out.keep hCC (fun h => h))
         clear Bp2
         have Bp2 := Bx
         clear Bx
         have Bx := Lib.hid (B7.out.keep hCC (fun h => h))
         clear B7
         have B7 := Bx
         clear Bx
         have Bx := Lib.hid (B8.out.keep hCC (fun h => h))
         clear B8
         have B8 := Bx
         clear Bx
         have Bx := Lib.hid (B9.out.keep hCC (fun h => h))
         clear B9
         have B9 := Bx
         clear Bx
         have Hs := Lib.hid (hV.mono (base' := 0) (Nat.zero_le _))
         clear hV
         clear hC hCC
         try clear xp10 xp11
         try clear xp1z
         have xp1z := Bp1.out.lt
         have xp10 := Bp1.out.cell 0
         have xp11 := Bp1.out.cell 1
         simp only [List.getElem?_toArray, List.getElem?_cons_zero, List.getElem?_cons_succ] at xp10 xp11
         try clear xp20 xp21
         try clear xp2z
         have xp2z := Bp2.out.lt
         have xp20 := Bp2.out.cell 0
         have xp21 := Bp2.out.cell 1
         simp only [List.getElem?_toArray, List.getElem?_cons_zero, List.getElem?_cons_succ] at xp20 xp21
         try clear x70 x71
         try clear x7z
         have x7z := B7.out.lt
         have x70 := B7.out.cell 0
         have x71 := B7.out.cell 1
         simp only [List.getElem?_toArray, List.getElem?_cons_zero, List.getElem?_cons_succ] at x70 x71
         try clear x80 x81
         try clear x8z
         have x8z := B8.out.lt
         have x80 := B8.out.cell 0
         have x81 := B8.out.cell 1
         simp only [List.getElem?_toArray, List.getElem?_cons_zero, List.getElem?_cons_succ] at x80 x81
         try clear x90 x91
         try clear x9z
         have x9z := B9.out.lt
         have x90 := B9.out.cell 0
         have x91 := B9.out.cell 1
         simp only [List.getElem?_toArray, List.getElem?_cons_zero, List.getElem?_cons_succ] at x90 x91)
      | (go_at_call 37
         (with_reducible refine (bsnone_any _ _ _ _ (Hs.out.keep (by first | exact Ch.refl _ _ | exact (Ch.refl _ _).alloc _ | exact (Ch.refl _ _).drew | exact ((Ch.refl _ _).alloc _).alloc _ | exact ((Ch.refl _ _).alloc _).drew | exact (((Ch.refl _ _).alloc _).alloc _).alloc _ | exact (((Ch.refl _ _).alloc _).alloc _).drew | exact ((((Ch.refl _ _).alloc _).alloc _).alloc _).drew | exact ((((Ch.refl _ _).alloc _).alloc _).alloc _).alloc _ | exact (((((Ch.refl _ _).alloc _).alloc _).alloc _).alloc _).drew)) (fun k => Bool.xor_self _)).mono ?_)
         rintro e w12 ⟨rfl, hC⟩
         have hCC : Ch S0 w11 w12 := Ch.trans (by first | exact Ch.refl _ _ | exact (Ch.refl _ _).alloc _ | exact (Ch.refl _ _).drew | exact ((Ch.refl _ _).alloc _).alloc _ | exact ((Ch.refl _ _).alloc _).drew | exact (((Ch.refl _ _).alloc _).alloc _).alloc _ | exact (((Ch.refl _ _).alloc _).alloc _).drew | exact ((((Ch.refl _ _).alloc _).alloc _).alloc _).drew | exact ((((Ch.refl _ _).alloc _).alloc _).alloc _).alloc _ | exact (((((Ch.refl _ _).alloc _).alloc _).alloc _).alloc _).drew) hC
         have HC12 := Lib.hid (HC11.out.trans hCC)
         clear HC11
         have Hx := Lib.hid (H19.out.keep hCC)
         clear H19
         have H19 := Hx
         clear Hx
         have Hx := Lib.hid (H21.out.keep hCC)
         clear H21
         have H21 := Hx
         clear Hx
         have Hx := Lib.hid (Hc.out.keep hCC)
         clear Hc
         have Hc := Hx
         clear Hx
         have Hx := Lib.hid (Hd.out.keep hCC)
         clear Hd
         have Hd := Hx
         clear Hx
         have Hx := Lib.hid (Hf.out.keep hCC)
         clear Hf
         have Hf := Hx
         clear Hx
         have Hx := Lib.hid (Hs.out.keep hCC)
         clear Hs
         have Hs := Hx
         clear Hx
         have Bx := Lib.hid (Bp1.out.keep hCC (fun h => h))
         clear Bp1
         have Bp1 := Bx
         clear Bx
         have Bx := Lib.hid (Bp2.out.keep hCC (fun h => h))
         clear Bp2
         have Bp2 := Bx
         clear Bx
         have Bx := Lib.hid (B7.out.keep hCC (fun h => h))
         clear B7
         have B7 := Bx
         clear Bx
         have Bx := Lib.hid (B8.out.keep hCC (fun h => h))
         clear B8
         have B8 := Bx
         clear Bx
         have Bx := Lib.hid (B9.out.keep hCC (fun h => h))
         clear B9
         have B9 := Bx
         clear Bx
         clear hC hCC
         try clear xp10 xp11
         try clear xp1z
         have xp1z := Bp1.out.lt
         have xp10 := Bp1.out.cell 0
         have xp11 := Bp1.out.cell 1
         simp only [List.getElem?_toArray, List.getElem?_cons_zero, List.getElem?_cons_succ] at xp10 xp11
         try clear xp20 xp21
         try clear xp2z
         have xp2z := Bp2.out.lt
         have xp20 := Bp2.out.cell 0
         have xp21 := Bp2.out.cell 1
         simp only [List.getElem?_toArray, List.getElem?_cons_zero, List.getElem?_cons_succ] at xp20 xp21
         try clear x70 x71
         try clear x7z
         have x7z := B7.out.lt
         have x70 := B7.out.cell 0
         have x71 := B7.out.cell 1
         simp only [List.getElem?_toArray, List.getElem?_cons_zero, List.getElem?_cons_succ] at x70 x71
         try clear x80 x81
         try clear x8z
         have x8z := B8.out.lt
         have x80 := B8.out.cell 0
         have x81 := B8.out.cell 1
         simp only [List.getElem?_toArray, List.getElem?_cons_zero, List.getElem?_cons_succ] at x80 x81
         try clear x90 x91
         try clear x9z
         have x9z := B9.out.lt
         have x90 := B9.out.cell 0
         have x91 := B9.out.cell 1
         simp only [List.getElem?_toArray, List.getElem?_cons_zero, List.getElem?_cons_succ] at x90 x91)
      | (go_at_call 15
         (with_reducible refine (bsset_any _ _ _ _ (H19.out.keep (by first | exact Ch.refl _ _ | exact (Ch.refl _ _).alloc _ | exact (Ch.refl _ _).drew | exact ((Ch.refl _ _).alloc _).alloc _ | exact ((Ch.refl _ _).alloc _).drew | exact (((Ch.refl _ _).alloc _).alloc _).alloc _ | exact (((Ch.refl _ _).alloc _).alloc _).drew | exact ((((Ch.refl _ _).alloc _).alloc _).alloc _).drew | exact ((((Ch.refl _ _).alloc _).alloc _).alloc _).alloc _ | exact (((((Ch.refl _ _).alloc _).alloc _).alloc _).alloc _).drew)) 400 _ (by omega) (by omega)).mono ?_)
         rintro e w13 ⟨vt, rfl, hV, hC⟩
         obtain ⟨Lt, hE⟩ : ∃ x, x = max L19 (400 + 1) := ⟨_, rfl⟩
         rw [← hE] at hV
         have Et := Lib.hid hE
         clear hE
         obtain ⟨At, nt, ct, rfl⟩ := hV.shape
         have hCC : Ch S0 w12 w13 := Ch.trans (by first | exact Ch.refl _ _ | exact (Ch.refl _ _).alloc _ | exact (Ch.refl _ _).drew | exact ((Ch.refl _ _).alloc _).alloc _ | exact ((Ch.refl _ _).alloc _).drew | exact (((Ch.refl _ _).alloc _).alloc _).alloc _ | exact (((Ch.refl _ _).alloc _).alloc _).drew | exact ((((Ch.refl _ _).alloc _).alloc _).alloc _).drew | exact ((((Ch.refl _ _).alloc _).alloc _).alloc _).alloc _ | exact (((((Ch.refl _ _).alloc _).alloc _).alloc _).alloc _).drew) hC
         have HC13 := Lib.hid (HC12.out.trans hCC)
         clear HC12
         have Hx := Lib.hid (H19.out.keep hCC)
         clear H19
         have H19 := Hx
         clear Hx
         have Hx := Lib.hid (H21.out.keep hCC)
         clear H21
         have H21 := Hx
         clear Hx
         have Hx := Lib.hid (Hc.out.keep hCC)
         clear Hc
         have Hc := Hx
         clear Hx
         have Hx := Lib.hid (Hd.out.keep hCC)
         clear Hd
         have Hd := Hx
         clear Hx
         have Hx := Lib.hid (Hf.out.keep hCC)
         clear Hf
         have Hf := Hx
         clear Hx
         have Hx := Lib.hid (Hs.out.keep hCC)
         clear Hs
         have Hs := Hx
         clear Hx
         have Bx := Lib.hid (Bp1.out.keep hCC (fun h => h))
         clear Bp1
         have Bp1 := Bx
         clear Bx
         have Bx := Lib.hid (Bp2.out.keep hCC (fun h => h))
         clear Bp2
         have Bp2 := Bx
         clear Bx
         have Bx := Lib.hid (B7.out.keep hCC (fun h => h))
         clear B7
         have B7 := Bx
         clear Bx
         have Bx := Lib.hid (B8.out.keep hCC (fun h => h))
         clear B8
         have B8 := Bx
         clear Bx
         have Bx := Lib.hid (B9.out.keep hCC (fun h => h))
         clear B9
         have B9 := Bx
         clear Bx
         have Ht := Lib.hid (hV.mono (base' := 0) (Nat.zero_le _))
         clear hV
         clear hC hCC
         try clear xp10 xp11
         try clear xp1z
         have xp1z := Bp1.out.lt
         have xp10 := Bp1.out.cell 0
         have xp11 := Bp1.out.cell 1
         simp only [List.getElem?_toArray, List.getElem?_cons_zero, List.getElem?_cons_succ] at xp10 xp11
         try clear xp20 xp21
         try clear xp2z
         have xp2z := Bp2.out.lt
         have xp20 := Bp2.out.cell 0
         have xp21 := Bp2.out.cell 1
         simp only [List.getElem?_toArray, List.getElem?_cons_zero, List.getElem?_cons_succ] at xp20 xp21
         try clear x70 x71
         try clear x7z
         have x7z := B7.out.lt
         have x70 := B7.out.cell 0
         have x71 := B7.out.cell 1
         simp only [List.getElem?_toArray, List.getElem?_cons_zero, List.getElem?_cons_succ] at x70 x71
         try clear x80 x81
         try clear x8z
         have x8z := B8.out.lt
         have x80 := B8.out.cell 0
         have x81 := B8.out.cell 1
         simp only [List.getElem?_toArray, List.getElem?_cons_zero, List.getElem?_cons_succ] at x80 x81
         try clear x90 x91
         try clear x9z
         have x9z := B9.out.lt
         have x90 := B9.out.cell 0
         have x91 := B9.out.cell 1
         simp only [List.getElem?_toArray, List.getElem?_cons_zero, List.getElem?_cons_succ] at x90 x91)
      | (go_at_call 38
         (with_reducible refine (bsinsert0_any _ _ _ _ (Ht.out.keep (by first | exact Ch.refl _ _ | exact (Ch.refl _ _).alloc _ | exact (Ch.refl _ _).drew | exact ((Ch.refl _ _).alloc _).alloc _ | exact ((Ch.refl _ _).alloc _).drew | exact (((Ch.refl _ _).alloc _).alloc _).alloc _ | exact (((Ch.refl _ _).alloc _).alloc _).drew | exact ((((Ch.refl _ _).alloc _).alloc _).alloc _).drew | exact ((((Ch.refl _ _).alloc _).alloc _).alloc _).alloc _ | exact (((((Ch.refl _ _).alloc _).alloc _).alloc _).alloc _).drew)) _ (by omega) (by have h := Et.out; omega) (by have h := Et.out; have h2 := HL19.out; omega)).mono ?_)
         rintro e w14 ⟨vu, rfl, hV, hC⟩
         obtain ⟨Lu, hE⟩ : ∃ x, x = Lt + 1 := ⟨_, rfl⟩
         rw [← hE] at hV
         have Eu := Lib.hid hE
         clear hE
         obtain ⟨Au, nu, cu, rfl⟩ := hV.shape
         have hCC : Ch S0 w13 w14 := Ch.trans (by first | exact Ch.refl _ _ | exact (Ch.refl _ _).alloc _ | exact (Ch.refl _ _).drew | exact ((Ch.refl _ _).alloc _).alloc _ | exact ((Ch.refl _ _).alloc _).drew | exact (((Ch.refl _ _).alloc _).alloc _).alloc _ | exact (((Ch.refl _ _).alloc _).alloc _).drew | exact ((((Ch.refl _ _).alloc _).alloc _).alloc _).drew | exact ((((Ch.refl _ _).alloc _).alloc _).alloc _).alloc _ | exact (((((Ch.refl _ _).alloc _).alloc _).alloc _).alloc _).drew) hC
         have HC14 := Lib.hid (HC13.out.trans hCC)
         clear HC13
         have Hx := Lib.hid (H19.out.keep hCC)
         clear H19
         have H19 := Hx
         clear Hx
         have Hx := Lib.hid (H21.out.keep hCC)
         clear H21
         have H21 := Hx
         clear Hx
         have Hx := Lib.hid (Hc.out.keep hCC)
         clear Hc
         have Hc := Hx
         clear Hx
         have Hx := Lib.hid (Hd.out.keep hCC)
         clear Hd
         have Hd := Hx
         clear Hx
         have Hx := Lib.hid (Hf.out.keep hCC)
         clear Hf
         have Hf := Hx
         clear Hx
         have Hx := Lib.hid (Hs.out.keep hCC)
         clear Hs
         have Hs := Hx
         clear Hx
         have Hx := Lib.hid (Ht.out.keep hCC)
         clear Ht
         have Ht := Hx
         clear Hx
         have Bx := Lib.hid (Bp1.out.keep hCC (fun h => h))
         clear Bp1
         have Bp1 := Bx
         clear Bx
         have Bx := Lib.hid (Bp2.out.keep hCC (fun h => h))
         clear Bp2
         have Bp2 := Bx
         clear Bx
         have Bx := Lib.hid (B7.out.keep hCC (fun h => h))
         clear B7
         have B7 := Bx
         clear Bx
         have Bx := Lib.hid (B8.out.keep hCC (fun h => h))
         clear B8
         have B8 := Bx
         clear Bx
         have Bx := Lib.hid (B9.out.keep hCC (fun h => h))
         clear B9
         have B9 := Bx
         clear Bx
         have Hu := Lib.hid (hV.mono (base' := 0) (Nat.zero_le _))
         clear hV
         clear hC hCC
         try clear xp10 xp11
         try clear xp1z
         have xp1z := Bp1.out.lt
         have xp10 := Bp1.out.cell 0
         have xp11 := Bp1.out.cell 1
         simp only [List.getElem?_toArray, List.getElem?_cons_zero, List.getElem?_cons_succ] at xp10 xp11
         try clear xp20 xp21
         try clear xp2z
         have xp2z := Bp2.out.lt
         have xp20 := Bp2.out.cell 0
         have xp21 := Bp2.out.cell 1
         simp only [List.getElem?_toArray, List.getElem?_cons_zero, List.getElem?_cons_succ] at xp20 xp21
         try clear x70 x71
         try clear x7z
         have x7z := B7.out.lt
         have x70 := B7.out.cell 0
         have x71 := B7.out.cell 1
         simp only [List.getElem?_toArray, List.getElem?_cons_zero, List.getElem?_cons_succ] at x70 x71
         try clear x80 x81
         try clear x8z
         have x8z := B8.out.lt
         have x80 := B8.out.cell 0
         have x81 := B8.out.cell 1
         simp only [List.getElem?_toArray, List.getElem?_cons_zero, List.getElem?_cons_succ] at x80 x81
         try clear x90 x91
         try clear x9z
         have x9z := B9.out.lt
         have x90 := B9.out.cell 0
         have x91 := B9.out.cell 1
         simp only [List.getElem?_toArray, List.getElem?_cons_zero, List.getElem?_cons_succ] at x90 x91)
      | (go_at_call 28
         (with_reducible refine (bsdelete_any _ _ _ _ (Hu.out.keep (by first | exact Ch.refl _ _ | exact (Ch.refl _ _).alloc _ | exact (Ch.refl _ _).drew | exact ((Ch.refl _ _).alloc _).alloc _ | exact ((Ch.refl _ _).alloc _).drew | exact (((Ch.refl _ _).alloc _).alloc _).alloc _ | exact (((Ch.refl _ _).alloc _).alloc _).drew | exact ((((Ch.refl _ _).alloc _).alloc _).alloc _).drew | exact ((((Ch.refl _ _).alloc _).alloc _).alloc _).alloc _ | exact (((((Ch.refl _ _).alloc _).alloc _).alloc _).alloc _).drew)) 0 _ (by omega) (by have h := Eu.out; omega)).mono ?_)
         rintro e w15 ⟨vv, rfl, hV, hC⟩
         obtain ⟨Lv, hE⟩ : ∃ x, x = Lu - 1 := ⟨_, rfl⟩
         rw [← hE] at hV
         have Ev := Lib.hid hE
         clear hE
         obtain ⟨Av, nv, cv, rfl⟩ := hV.shape
         have hCC : Ch S0 w14 w15 := Ch.trans (by first | exact Ch.refl _ _ | exact (Ch.refl _ _).alloc _ | exact (Ch.refl _ _).drew | exact ((Ch.refl _ _).alloc _).alloc _ | exact ((Ch.refl _ _).alloc _).drew | exact (((Ch.refl _ _).alloc _).alloc _).alloc _ | exact (((Ch.refl _ _).alloc _).alloc _).drew | exact ((((Ch.refl _ _).alloc _).alloc _).alloc _).drew | exact ((((Ch.refl _ _).alloc _).alloc _).alloc _).alloc _ | exact (((((Ch.refl _ _).alloc _).alloc _).alloc _).alloc _).drew) hC
         have HC15 := Lib.hid (HC14.out.trans hCC)
         clear HC14
         have Hx := Lib.hid (H19.out.keep hCC)
         clear H19
         have H19 := Hx
         clear Hx
         have Hx := Lib.hid (H21.out.keep hCC)
         clear H21
         have H21 := Hx
         clear Hx
         have Hx := Lib.hid (Hc.out.keep hCC)
         clear Hc
         have Hc := Hx
         clear Hx
         have Hx := Lib.hid (Hd.out.keep hCC)
         clear Hd
         have Hd := Hx
         clear Hx
         have Hx := Lib.hid (Hf.out.keep hCC)
         clear Hf
         have Hf := Hx
         clear Hx
         have Hx := Lib.hid (Hs.out.keep hCC)
         clear Hs
         have Hs := Hx
         clear Hx
         have Hx := Lib.hid (Ht.out.keep hCC)
         clear Ht
         have Ht := Hx
         clear Hx
         have Hx := Lib.hid (Hu.out.keep hCC)
         clear Hu
         have Hu := Hx
         clear Hx
         have Bx := Lib.hid (Bp1.out.keep hCC (fun h => h))
         clear Bp1
         have Bp1 := Bx
         clear Bx
         have Bx := Lib.hid (Bp2.out.keep hCC (fun h => h))
         clear Bp2
         have Bp2 := Bx
         clear Bx
         have Bx := Lib.hid (B7.out.keep hCC (fun h => h))
         clear B7
         have B7 := Bx
         clear Bx
         have Bx := Lib.hid (B8.out.keep hCC (fun h => h))
         clear B8
         have B8 := Bx
         clear Bx
         have Bx := Lib.hid (B9.out.keep hCC (fun h => h))
         clear B9
         have B9 := Bx
         clear Bx
         have Hv := Lib.hid (hV.mono (base' := 0) (Nat.zero_le _))
         clear hV
         clear hC hCC
         try clear xp10 xp11
         try clear xp1z
         have xp1z := Bp1.out.lt
         have xp10 := Bp1.out.cell 0
         have xp11 := Bp1.out.cell 1
         simp only [List.getElem?_toArray, List.getElem?_cons_zero, List.getElem?_cons_succ] at xp10 xp11
         try clear xp20 xp21
         try clear xp2z
         have xp2z := Bp2.out.lt
         have xp20 := Bp2.out.cell 0
         have xp21 := Bp2.out.cell 1
         simp only [List.getElem?_toArray, List.getElem?_cons_zero, List.getElem?_cons_succ] at xp20 xp21
         try clear x70 x71
         try clear x7z
         have x7z := B7.out.lt
         have x70 := B7.out.cell 0
         have x71 := B7.out.cell 1
         simp only [List.getElem?_toArray, List.getElem?_cons_zero, List.getElem?_cons_succ] at x70 x71
         try clear x80 x81
         try clear x8z
         have x8z := B8.out.lt
         have x80 := B8.out.cell 0
         have x81 := B8.out.cell 1
         simp only [List.getElem?_toArray, List.getElem?_cons_zero, List.getElem?_cons_succ] at x80 x81
         try clear x90 x91
         try clear x9z
         have x9z := B9.out.lt
         have x90 := B9.out.cell 0
         have x91 := B9.out.cell 1
         simp only [List.getElem?_toArray, List.getElem?_cons_zero, List.getElem?_cons_succ] at x90 x91)
      | (go_at_call 35
         (with_reducible refine (bsequal_any _ _ _ _ _ _ false _ ((Hv.out.keep (by first | exact Ch.refl _ _ | exact (Ch.refl _ _).alloc _ | exact (Ch.refl _ _).drew | exact ((Ch.refl _ _).alloc _).alloc _ | exact ((Ch.refl _ _).alloc _).drew | exact (((Ch.refl _ _).alloc _).alloc _).alloc _ | exact (((Ch.refl _ _).alloc _).alloc _).drew | exact ((((Ch.refl _ _).alloc _).alloc _).alloc _).drew | exact ((((Ch.refl _ _).alloc _).alloc _).alloc _).alloc _ | exact (((((Ch.refl _ _).alloc _).alloc _).alloc _).alloc _).drew)).cast (by have h1 := Et.out; have h2 := Eu.out; have h3 := Ev.out; have h4 := HL19.out; omega) (fun _ => rfl)) (H19.out.keep (by first | exact Ch.refl _ _ | exact (Ch.refl _ _).alloc _ | exact (Ch.refl _ _).drew | exact ((Ch.refl _ _).alloc _).alloc _ | exact ((Ch.refl _ _).alloc _).drew | exact (((Ch.refl _ _).alloc _).alloc _).alloc _ | exact (((Ch.refl _ _).alloc _).alloc _).drew | exact ((((Ch.refl _ _).alloc _).alloc _).alloc _).drew | exact ((((Ch.refl _ _).alloc _).alloc _).alloc _).alloc _ | exact (((((Ch.refl _ _).alloc _).alloc _).alloc _).alloc _).drew)) EQ3.out).mono ?_)
         rintro e w16 ⟨rfl, hC⟩
         have hCC : Ch S0 w15 w16 := Ch.trans (by first | exact Ch.refl _ _ | exact (Ch.refl _ _).alloc _ | exact (Ch.refl _ _).drew | exact ((Ch.refl _ _).alloc _).alloc _ | exact ((Ch.refl _ _).alloc _).drew | exact (((Ch.refl _ _).alloc _).alloc _).alloc _ | exact (((Ch.refl _ _).alloc _).alloc _).drew | exact ((((Ch.refl _ _).alloc _).alloc _).alloc _).drew | exact ((((Ch.refl _ _).alloc _).alloc _).alloc _).alloc _ | exact (((((Ch.refl _ _).alloc _).alloc _).alloc _).alloc _).drew) hC
         have HC16 := Lib.hid (HC15.out.trans hCC)
         clear HC15
         have Hx := Lib.hid (H19.out.keep hCC)
         clear H19
         have H19 := Hx
         clear Hx
         have Hx := Lib.hid (H21.out.keep hCC)
         clear H21
         have H21 := Hx
         clear Hx
         have Hx := Lib.hid (Hc.out.keep hCC)
         clear Hc
         have Hc := Hx
         clear Hx
         have Hx := Lib.hid (Hd.out.keep hCC)
         clear Hd
         have Hd := Hx
         clear Hx
         have Hx := Lib.hid (Hf.out.keep hCC)
         clear Hf
         have Hf := Hx
         clear Hx
         have Hx := Lib.hid (Hs.out.keep hCC)
         clear Hs
         have Hs := Hx
         clear Hx
         have Hx := Lib.hid (Ht.out.keep hCC)
         clear Ht
         have Ht := Hx
         clear Hx
         have Hx := Lib.hid (Hu.out.keep hCC)
         clear Hu
         have Hu := Hx
         clear Hx
         have Hx := Lib.hid (Hv.out.keep hCC)
         clear Hv
         have Hv := Hx
         clear Hx
         have Bx := Lib.hid (Bp1.out.keep hCC (fun h => h))
         clear Bp1
         have Bp1 := Bx
         clear Bx
         have Bx := Lib.hid (Bp2.out.keep hCC (fun h => h))
         clear Bp2
         have Bp2 := Bx
         clear Bx
         have Bx := Lib.hid (B7.out.keep hCC (fun h => h))
         clear B7
         have B7 := Bx
         clear Bx
         have Bx := Lib.hid (B8.out.keep hCC (fun h => h))
         clear B8
         have B8 := Bx
         clear Bx
         have Bx := Lib.hid (B9.out.keep hCC (fun h => h))
         clear B9
         have B9 := Bx
         clear Bx
         clear hC hCC
         try clear xp10 xp11
         try clear xp1z
         have xp1z := Bp1.out.lt
         have xp10 := Bp1.out.cell 0
         have xp11 := Bp1.out.cell 1
         simp only [List.getElem?_toArray, List.getElem?_cons_zero, List.getElem?_cons_succ] at xp10 xp11
         try clear xp20 xp21
         try clear xp2z
         have xp2z := Bp2.out.lt
         have xp20 := Bp2.out.cell 0
         have xp21 := Bp2.out.cell 1
         simp only [List.getElem?_toArray, List.getElem?_cons_zero, List.getElem?_cons_succ] at xp20 xp21
         try clear x70 x71
         try clear x7z
         have x7z := B7.out.lt
         have x70 := B7.out.cell 0
         have x71 := B7.out.cell 1
         simp only [List.getElem?_toArray, List.getElem?_cons_zero, List.getElem?_cons_succ] at x70 x71
         try clear x80 x81
         try clear x8z
         have x8z := B8.out.lt
         have x80 := B8.out.cell 0
         have x81 := B8.out.cell 1
         simp only [List.getElem?_toArray, List.getElem?_cons_zero, List.getElem?_cons_succ] at x80 x81
         try clear x90 x91
         try clear x9z
         have x9z := B9.out.lt
         have x90 := B9.out.cell 0
         have x91 := B9.out.cell 1
         simp only [List.getElem?_toArray, List.getElem?_cons_zero, List.getElem?_cons_succ] at x90 x91))
  go_wp2
  go_ret
  exact ⟨rfl, HC16.out⟩

end Go.Proofs.Ytgnhmgnpmbmjcaa
