/- WALKS: Test and Add of a filter. -/
import Derived.Test.YtagillnkdaanaaaE
namespace Go.Proofs.Ytagillnkdaanaaa
open Go.RowKit
set_option linter.unusedVariables false
set_option linter.unusedSimpArgs false

/-- All of the first places are set. -/
def allTo (g : Nat → Bool) (loc : Nat → Nat) : Nat → Bool
  | 0 => true
  | k + 1 => allTo g loc k && g (loc k)
/-- The first places are set besides. -/
def addTo (g : Nat → Bool) (loc : Nat → Nat) : Nat → (Nat → Bool)
  | 0 => g
  | k + 1 => Bit.put (addTo g loc k) (loc k) true

theorem allTo_le {g : Nat → Bool} {loc : Nat → Nat} {i K : Nat} (hi : i < K) (h : g (loc i) = false) : allTo g loc K = false := by
  induction K with
  | zero => omega
  | succ k ih =>
    by_cases e : i = k
    · subst e; simp [allTo, h]
    · simp [allTo, ih (by omega)]

set_option maxRecDepth 100000 in
set_option maxHeartbeats 2000000 in
theorem ftest_any (fb b sb M K n nd : Nat) (g : Nat → Bool) (f : Nat → Int) (loc : Nat → Nat) (v : Value) (w : World) (h : Fl w fb b sb M K n g) (hp : 0 < n ∧ n ≤ 1000 ∧ 0 < M ∧ M ≤ 64 * n ∧ 0 < K ∧ K ≤ 8) (hd : Dat w v nd f) (hl : IsLoc nd f M loc) :
    Calls Try.prog 17 #[.pointer (some ⟨fb, 0, none⟩), v] w fun e w' => e = .returned (.bool (allTo g loc K)) ∧ Ch S0 w w' := by
  obtain ⟨h1, h2, h3, h4, hb, hx⟩ := hl
  have HBs := Lib.hid hb
  have HX := Lib.hid hx
  have HF := Lib.hid h
  have HD := Lib.hid hd
  obtain ⟨p1, p2, p3, p4, p5, p6⟩ := hp
  obtain ⟨A, cap, rfl⟩ : ∃ A cap, v = .slice A nd cap := by obtain ⟨_, A, cap, h1, _⟩ := hd; exact ⟨A, cap, h1⟩
  clear hb hx h hd
  go_enter Try.func17, Try.ntmps17
  go_wp2_with fail
  refine (HBs.out _ _ HD.out).mono ?_
  rintro e w1 ⟨rfl, hC1⟩
  have HF1 := Lib.hid ((HF.out.keep hC1 (fun h => h) (fun h => h) (fun h => h)).keep (S := S0) ((Ch.refl _ _).alloc (Obj.cells #[Value.int .u64 h1, .int .u64 h2, .int .u64 h3, .int .u64 h4] 61)) (fun h => h) (fun h => h) (fun h => h))
  have HA1 := Lib.hid (Blk.new w1 #[Value.int .u64 h1, .int .u64 h2, .int .u64 h3, .int .u64 h4] 61)
  have HC1 := Lib.hid (hC1.alloc (Obj.cells #[Value.int .u64 h1, .int .u64 h2, .int .u64 h3, .int .u64 h4] 61))
  clear hC1 HF HD
  go_wp2_with fail
  generalize w1.alloc (Obj.cells #[Value.int .u64 h1, .int .u64 h2, .int .u64 h3, .int .u64 h4] 61) = w2 at *
  generalize w1.heap.size = hb1 at *
  go_loopw [6] (fun k wr => ∃ i : Nat, i ≤ K ∧ k = .int .u64 i ∧ Hid (allTo g loc i = true) ∧ Ch S0 w2 wr) (fun k _ => K - (intOf k).toNat)
  case atStart => exact ⟨0, Nat.zero_le _, rfl, Lib.hid rfl, Ch.refl _ _⟩
  case round =>
    obtain ⟨i, hi, rfl, HAll, hch⟩ := hrel
    have hFr := HF1.out.keep hch (fun h => h) (fun h => h) (fun h => h)
    have hAr := HA1.out.keep hch (fun h => h)
    have HCr := Lib.hid (HC1.out.trans hch)
    have HC2 := Lib.hid hch
    have cK := hFr.blk.cell 1
    have cb := hFr.blk.cell 2
    have a0 := hAr.cell 0
    have a1 := hAr.cell 1
    have a2 := hAr.cell 2
    have a3 := hAr.cell 3
    simp only [List.getElem?_toArray, List.getElem?_cons_zero, List.getElem?_cons_succ] at cK cb a0 a1 a2 a3
    have HFr := Lib.hid hFr
    have HAr := Lib.hid hAr
    clear hFr hAr hch
    by_cases hlt : i < K
    · have hloc := (HX.out i (by omega)).1
      have C32 := Lib.hid (HX.out i (by omega)).2
      obtain ⟨p, hpe⟩ : ∃ p, p = loc i := ⟨_, rfl⟩
      rw [← hpe] at hloc C32
      have HPE := Lib.hid hpe
      obtain ⟨t, ht⟩ : ∃ t, t = g p := ⟨_, rfl⟩
      have HT := Lib.hid ht
      have hp64 : p < 64 * n := by omega
      have hn64 : 64 * n ≤ 90000 := by omega
      clear hpe ht
      go_wp2_with fail
      go_region_held3 (fun w' => w'.cell? ⟨fb, 2, none⟩ = some (.pointer (some ⟨b, 0, none⟩)) ∧ w'.cell? ⟨hb1, 0, none⟩ = some (.int .u64 h1) ∧ w'.cell? ⟨hb1, 1, none⟩ = some (.int .u64 h2) ∧ w'.cell? ⟨hb1, 2, none⟩ = some (.int .u64 h3) ∧ w'.cell? ⟨hb1, 3, none⟩ = some (.int .u64 h4))
        (first | ((try dsimp only); (repeat' apply And.intro) <;> assumption) | (go_keep; done))
        (first
          | (go_at_call 32
             (with_reducible refine (C32.out _ fb _ _ (Blk.keep (S := S0) HFr.out.blk (by first | exact Ch.refl S0 _ | exact (Ch.refl S0 _).drew | exact ((Ch.refl S0 _).drew).drew | exact (Ch.refl S0 _).alloc _ | exact ((Ch.refl S0 _).alloc _).drew | exact ((Ch.refl S0 _).drew).alloc _) (fun h => h))).mono ?_)
             rintro e w3 ⟨rfl, hC3⟩
             have hCC : Ch S0 wr w3 := Ch.trans (by first | exact Ch.refl S0 _ | exact (Ch.refl S0 _).drew | exact ((Ch.refl S0 _).drew).drew | exact (Ch.refl S0 _).alloc _ | exact ((Ch.refl S0 _).alloc _).drew | exact ((Ch.refl S0 _).drew).alloc _) hC3
             have HCC := Lib.hid hCC
             have hF3 := HFr.out.keep hCC (fun h => h) (fun h => h) (fun h => h)
             have hA3 := HAr.out.keep hCC (fun h => h)
             clear cK cb a0 a1 a2 a3 hC3 hCC
             have cb := hF3.blk.cell 2
             have a0 := hA3.cell 0
             have a1 := hA3.cell 1
             have a2 := hA3.cell 2
             have a3 := hA3.cell 3
             simp only [List.getElem?_toArray, List.getElem?_cons_zero, List.getElem?_cons_succ] at cb a0 a1 a2 a3
             clear hF3 hA3)
          | (go_at_call 31
             (with_reducible refine (test_in b sb (64 * n) p g _ (BS.keep (S := S0) HFr.out.bs (HCC.out.trans (by first | exact Ch.refl S0 _ | exact (Ch.refl S0 _).drew | exact ((Ch.refl S0 _).drew).drew | exact (Ch.refl S0 _).alloc _ | exact ((Ch.refl S0 _).alloc _).drew | exact ((Ch.refl S0 _).drew).alloc _)) (fun h => h) (fun h => h)) hp64 hn64).mono ?_)
             rintro e w4 ⟨rfl, hC4⟩
             have hCC : Ch S0 wr w4 := HCC.out.trans (Ch.trans (by first | exact Ch.refl S0 _ | exact (Ch.refl S0 _).drew | exact ((Ch.refl S0 _).drew).drew | exact (Ch.refl S0 _).alloc _ | exact ((Ch.refl S0 _).alloc _).drew | exact ((Ch.refl S0 _).drew).alloc _) hC4)
             have HC4 := Lib.hid hCC
             have hF3 := HFr.out.keep hCC (fun h => h) (fun h => h) (fun h => h)
             have hA3 := HAr.out.keep hCC (fun h => h)
             clear cb a0 a1 a2 a3 hC4 hCC
             have cb := hF3.blk.cell 2
             have a0 := hA3.cell 0
             have a1 := hA3.cell 1
             have a2 := hA3.cell 2
             have a3 := hA3.cell 3
             simp only [List.getElem?_toArray, List.getElem?_cons_zero, List.getElem?_cons_succ] at cb a0 a1 a2 a3
             clear hF3 hA3
             rw [← HT.out]))
      cases t
      · go_wp2_with fail
        go_ret
        exact ⟨by rw [allTo_le hlt (by rw [← HPE.out]; exact HT.out.symm)]; rfl, HCr.out.trans (HC4.out.trans (by first | exact Ch.refl S0 _ | exact (Ch.refl S0 _).drew | exact ((Ch.refl S0 _).drew).drew | exact (Ch.refl S0 _).alloc _ | exact ((Ch.refl S0 _).alloc _).drew | exact ((Ch.refl S0 _).drew).alloc _))⟩
      · go_wp2_with fail
        go_roundw
        case rel => exact ⟨i + 1, by omega, by go_num, Lib.hid (by rw [allTo, HAll.out, ← HPE.out, ← HT.out]; rfl), HC2.out.trans (HC4.out.trans (by first | exact Ch.refl S0 _ | exact (Ch.refl S0 _).drew | exact ((Ch.refl S0 _).drew).drew | exact (Ch.refl S0 _).alloc _ | exact ((Ch.refl S0 _).alloc _).drew | exact ((Ch.refl S0 _).drew).alloc _))⟩
        case measure => simp [intOf]; omega
    · obtain rfl : i = K := by omega
      go_wp2_with fail
      go_ret
      exact ⟨by rw [HAll.out]; rfl, HCr.out⟩
end Go.Proofs.Ytagillnkdaanaaa
