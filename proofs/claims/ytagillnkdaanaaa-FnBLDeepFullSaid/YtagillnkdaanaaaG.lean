/- WALKS: Add of a filter. -/
import Derived.Test.YtagillnkdaanaaaF
namespace Go.Proofs.Ytagillnkdaanaaa
open Go.RowKit
set_option linter.unusedVariables false
set_option linter.unusedSimpArgs false

set_option maxRecDepth 100000 in
set_option maxHeartbeats 2000000 in
theorem fadd_any (fb b sb M K n nd : Nat) (g : Nat → Bool) (f : Nat → Int) (loc : Nat → Nat) (v : Value) (w : World) (h : Fl w fb b sb M K n g) (hp : 0 < n ∧ n ≤ 1000 ∧ 0 < M ∧ M ≤ 64 * n ∧ 0 < K ∧ K ≤ 8) (hd : Dat w v nd f) (hl : IsLoc nd f M loc) :
    Calls Try.prog 18 #[.pointer (some ⟨fb, 0, none⟩), v] w fun e w' => e = .returned (.pointer (some ⟨fb, 0, none⟩)) ∧ Fl w' fb b sb M K n (addTo g loc K) ∧ Ch (S2 b sb) w w' := by
  obtain ⟨h1, h2, h3, h4, hb, hx⟩ := hl
  have HBs := Lib.hid hb
  have HX := Lib.hid hx
  have HF := Lib.hid h
  have HD := Lib.hid hd
  obtain ⟨p1, p2, p3, p4, p5, p6⟩ := hp
  obtain ⟨A, cap, rfl⟩ : ∃ A cap, v = .slice A nd cap := by obtain ⟨_, A, cap, h1, _⟩ := hd; exact ⟨A, cap, h1⟩
  clear hb hx h hd
  go_enter Try.func18, Try.ntmps18
  go_wp2_with fail
  refine (HBs.out _ _ HD.out).mono ?_
  rintro e w1 ⟨rfl, hC1⟩
  have HF1 := Lib.hid ((HF.out.keep hC1 (fun h => h) (fun h => h) (fun h => h)).keep (S := S0) ((Ch.refl _ _).alloc (Obj.cells #[Value.int .u64 h1, .int .u64 h2, .int .u64 h3, .int .u64 h4] 61)) (fun h => h) (fun h => h) (fun h => h))
  have HA1 := Lib.hid (Blk.new w1 #[Value.int .u64 h1, .int .u64 h2, .int .u64 h3, .int .u64 h4] 61)
  have HC1 := Lib.hid (hC1.alloc (Obj.cells #[Value.int .u64 h1, .int .u64 h2, .int .u64 h3, .int .u64 h4] 61))
  have HF0 := Lib.hid (HF.out.keep hC1 (fun h => h) (fun h => h) (fun h => h))
  clear hC1 HF HD
  go_wp2_with fail
  have hbb := HF1.out.bs.lt
  have hne1 : ¬ S2 b sb w1.heap.size := fun hs => by
    have := HF0.out.bs.lt
    rcases hs with hs | hs <;> omega
  have hnf : ¬ S2 b sb fb := fun hs => by
    have := HF0.out.ne
    rcases hs with hs | hs
    · exact this.1 hs
    · exact this.2 hs
  clear hbb HF0
  generalize w1.alloc (Obj.cells #[Value.int .u64 h1, .int .u64 h2, .int .u64 h3, .int .u64 h4] 61) = w2 at *
  generalize w1.heap.size = hb1 at *
  go_loopw [6] (fun k wr => ∃ i : Nat, i ≤ K ∧ k = .int .u64 i ∧ Hid (Fl wr fb b sb M K n (addTo g loc i)) ∧ Ch (S2 b sb) w2 wr) (fun k _ => K - (intOf k).toNat)
  case atStart => exact ⟨0, Nat.zero_le _, rfl, HF1, Ch.refl _ _⟩
  case round =>
    obtain ⟨i, hi, rfl, HAll, hch⟩ := hrel
    have hFr := HAll.out
    have hAr := HA1.out.keep hch hne1
    have HCr := Lib.hid ((HC1.out.mono (fun _ _ h => h.elim)).trans hch)
    have HC2 := Lib.hid hch
    have cK := hFr.blk.cell 1
    have cb := hFr.blk.cell 2
    have a0 := hAr.cell 0
    have a1 := hAr.cell 1
    have a2 := hAr.cell 2
    have a3 := hAr.cell 3
    simp only [List.getElem?_toArray, List.getElem?_cons_zero, List.getElem?_cons_succ] at cK cb a0 a1 a2 a3
    have HFr := Lib.hid hFr
    have HAr := Lib.hid hAr
    clear hFr hAr hch
    by_cases hlt : i < K
    · have hloc := (HX.out i (by omega)).1
      have C32 := Lib.hid (HX.out i (by omega)).2
      obtain ⟨p, hpe⟩ : ∃ p, p = loc i := ⟨_, rfl⟩
      rw [← hpe] at hloc C32
      have HPE := Lib.hid hpe
      have hp64 : p < 64 * n := by omega
      have hn64 : 64 * n ≤ 90000 := by omega
      clear hpe
      go_wp2_with fail
      go_region_held3 (fun w' => w'.cell? ⟨fb, 2, none⟩ = some (.pointer (some ⟨b, 0, none⟩)) ∧ w'.cell? ⟨hb1, 0, none⟩ = some (.int .u64 h1) ∧ w'.cell? ⟨hb1, 1, none⟩ = some (.int .u64 h2) ∧ w'.cell? ⟨hb1, 2, none⟩ = some (.int .u64 h3) ∧ w'.cell? ⟨hb1, 3, none⟩ = some (.int .u64 h4))
        (first | ((try dsimp only); (repeat' apply And.intro) <;> assumption) | (go_keep; done))
        (first
          | (go_at_call 32
             (with_reducible refine (C32.out _ fb _ _ (Blk.keep (S := S0) HFr.out.blk (by first | exact Ch.refl S0 _ | exact (Ch.refl S0 _).drew | exact ((Ch.refl S0 _).drew).drew | exact (Ch.refl S0 _).alloc _ | exact ((Ch.refl S0 _).alloc _).drew | exact ((Ch.refl S0 _).drew).alloc _) (fun h => h))).mono ?_)
             rintro e w3 ⟨rfl, hC3⟩
             have hCC : Ch S0 wr w3 := Ch.trans (by first | exact Ch.refl S0 _ | exact (Ch.refl S0 _).drew | exact ((Ch.refl S0 _).drew).drew | exact (Ch.refl S0 _).alloc _ | exact ((Ch.refl S0 _).alloc _).drew | exact ((Ch.refl S0 _).drew).alloc _) hC3
             have HCC := Lib.hid hCC
             have hF3 := HFr.out.keep hCC (fun h => h) (fun h => h) (fun h => h)
             have hA3 := HAr.out.keep hCC (fun h => h)
             clear cK cb a0 a1 a2 a3 hC3 hCC
             have cb := hF3.blk.cell 2
             have a0 := hA3.cell 0
             have a1 := hA3.cell 1
             have a2 := hA3.cell 2
             have a3 := hA3.cell 3
             simp only [List.getElem?_toArray, List.getElem?_cons_zero, List.getElem?_cons_succ] at cb a0 a1 a2 a3
             clear hF3 hA3)
          | (go_at_call 33
             (with_reducible refine (set_in b sb (64 * n) p (addTo g loc i) _ (BS.keep (S := S0) HFr.out.bs (HCC.out.trans (by first | exact Ch.refl S0 _ | exact (Ch.refl S0 _).drew | exact ((Ch.refl S0 _).drew).drew | exact (Ch.refl S0 _).alloc _ | exact ((Ch.refl S0 _).alloc _).drew | exact ((Ch.refl S0 _).drew).alloc _)) (fun h => h) (fun h => h)) hp64 hn64).mono ?_)
             rintro e w4 ⟨rfl, hB4, hC4⟩
             have hC04 : Ch (S2 b sb) wr w4 := ((HCC.out.trans (by first | exact Ch.refl S0 _ | exact (Ch.refl S0 _).drew | exact ((Ch.refl S0 _).drew).drew | exact (Ch.refl S0 _).alloc _ | exact ((Ch.refl S0 _).alloc _).drew | exact ((Ch.refl S0 _).drew).alloc _)).mono (fun _ _ h => h.elim)).trans hC4
             have HC4 := Lib.hid hC04
             have hF4 : Fl w4 fb b sb M K n (Bit.put (addTo g loc i) p true) := ⟨HFr.out.blk.keep hC04 hnf, hB4, HFr.out.ne⟩
             have hA4 := HAr.out.keep hC04 hne1
             have HF4 := Lib.hid hF4
             clear cb a0 a1 a2 a3 hC4 hC04 hB4
             have cb := hF4.blk.cell 2
             have a0 := hA4.cell 0
             have a1 := hA4.cell 1
             have a2 := hA4.cell 2
             have a3 := hA4.cell 3
             simp only [List.getElem?_toArray, List.getElem?_cons_zero, List.getElem?_cons_succ] at cb a0 a1 a2 a3
             clear hF4 hA4))
      go_wp2_with fail
      go_roundw
      case rel => exact ⟨i + 1, by omega, by go_num, Lib.hid (by rw [addTo, ← HPE.out]; exact HF4.out.keep (by first | exact Ch.refl S0 _ | exact (Ch.refl S0 _).drew | exact ((Ch.refl S0 _).drew).drew | exact (Ch.refl S0 _).alloc _ | exact ((Ch.refl S0 _).alloc _).drew | exact ((Ch.refl S0 _).drew).alloc _) (fun h => h) (fun h => h) (fun h => h)), HC2.out.trans (HC4.out.trans (Ch.mono (S := S0) (by first | exact Ch.refl S0 _ | exact (Ch.refl S0 _).drew | exact ((Ch.refl S0 _).drew).drew | exact (Ch.refl S0 _).alloc _ | exact ((Ch.refl S0 _).alloc _).drew | exact ((Ch.refl S0 _).drew).alloc _) (fun _ _ h => h.elim)))⟩
      case measure => simp [intOf]; omega
    · obtain rfl : i = K := by omega
      go_wp2_with fail
      go_ret
      exact ⟨rfl, HAll.out, HCr.out⟩
end Go.Proofs.Ytagillnkdaanaaa
