/- WALKS: the whole hash, where fifteen bytes are left; the four numbers of it. -/
import Derived.Test.YtagillnkdaanaaaH4
namespace Go.Proofs.Ytagillnkdaanaaa
open Go.RowKit
set_option linter.unusedVariables false
set_option linter.unusedSimpArgs false

set_option maxRecDepth 100000 in
set_option maxHeartbeats 4000000 in
theorem sum256_15 (f : Nat → Int) (n s : Nat) (hn : n ≤ 80) (hs : n = s + 15) (ht : n % 16 = 15) : ∃ r1 r2 r3 r4 : Int, ∀ (w : World) (d : Nat) (A : Option Addr) (cap : Nat) (x y : Int), n ≤ cap → cap ≤ 9223372036854775807 → Byts w A n f d → Blk w d #[.int .u64 x, .int .u64 y] →
    Calls Try.prog 42 #[.pointer (some ⟨d, 0, none⟩), .slice A n cap] w fun e w' => e = .returned (.tuple #[.int .u64 r1, .int .u64 r2, .int .u64 r3, .int .u64 r4]) ∧ Ch (S1 d) w w' := by
  have i1 : (n : Int) % 16 = 15 := by omega
  have i2 : (0 : Int) ≤ (n : Int) - 15 := by omega
  have i3 : ((n : Int) - 15).toNat = s := by omega
  have i4 : (n : Int) - 15 ≤ (n : Int) := by omega
  have i5 : n - s = 15 := by omega
  have h0 : 0 < n := by omega
  have HS := Lib.hid hs
  clear hs ht
  obtain ⟨p1, p2, hp⟩ := bmix_ex f 0 0 n hn
  obtain ⟨q1, q2, hq⟩ := s128_ex p1 p2 (n : Int) (fun j => f (s + j)) 15 (by omega) false (fun h => by cases h)
  obtain ⟨l1, hl1⟩ := le64_ex (fun j => f (s + (0 + j)))
  obtain ⟨l2, hl2⟩ := le32_ex (fun j => f (s + (8 + j)))
  have HP := Lib.hid hp
  have HQ := Lib.hid hq
  have H1 := Lib.hid hl1
  have H2 := Lib.hid hl2
  clear hp hq hl1 hl2
  refine ⟨q1, q2, ?_⟩
  apply Exists.intro
  apply Exists.intro
  focus
    intro w d A cap x y hcap hcap2 hD hB
    obtain ⟨b, o, hbd, rfl, hc0⟩ := hD 0 h0
    have hbl := World.block_lt_of_cell? w _ hc0
    simp only at hbl
    have hns : n = s + 15 := HS.out
    have i6 : ¬ (cap - s = 0) := by omega
    have i8 : 15 ≤ cap - s := by omega
    clear hns
    have HD := Lib.hid hD
    have HB := Lib.hid hB
    clear hD hB hc0
    have d0 := HB.out.cell 0
    have d1 := HB.out.cell 1
    have e0 := HB.out.free 0
    have e1 := HB.out.free 1
    simp only [List.getElem?_toArray, List.getElem?_cons_zero, List.getElem?_cons_succ] at d0 d1
    go_enter Try.func42, Try.ntmps42
    go_wp2_with fail
    have hB1 : Blk ((w.setCell ⟨d, 0, none⟩ (.int .u64 0)).setCell ⟨d, 1, none⟩ (.int .u64 0)) d #[.int .u64 0, .int .u64 0] := (HB.out.set 0 _).set 1 _
    have hC1 : Ch (S1 d) w ((w.setCell ⟨d, 0, none⟩ (.int .u64 0)).setCell ⟨d, 1, none⟩ (.int .u64 0)) := ((Ch.refl _ _).setCell _ (fun _ => show S1 d d from rfl) _).setCell _ (fun _ => show S1 d d from rfl) _
    have hq1 := HP.out _ d (some ⟨b, o, none⟩) cap hcap hcap2 (HD.out.keep hC1) hB1
    refine hq1.mono ?_
    rintro e w2 ⟨rfl, hB2, hC2⟩
    have HC2 := Lib.hid (hC1.trans hC2)
    have HB2 := Lib.hid hB2
    clear hB1 hC1 hB2 hC2 d0 d1 e0 e1 HB hq1
    go_wp2_with fail
    have hb3 := (HD.out.keep HC2.out).tail s 15 (by have := HS.out; omega)
    have hq3 := HQ.out w2 d (some ⟨b, o + s, none⟩) (cap - s) hb3 HB2.out
    refine hq3.mono ?_
    rintro e w3 ⟨rfl, hC3⟩
    have HC3 := Lib.hid (HC2.out.trans (hC3.mono (fun _ _ h => h.elim)))
    have HB3 := Lib.hid (HB2.out.keep hC3 (fun h => h))
    have HT3 := Lib.hid ((HD.out.keep HC3.out).tail s 15 (by have := HS.out; omega))
    have hbl3 : b < w3.heap.size := by have := HC3.out.size; omega
    clear HC2 HB2 hC3 hq3 hb3
    go_wp2_with fail
    obtain ⟨cc, hcc⟩ : ∃ cc, cc = cap - s := ⟨_, rfl⟩
    have hc8 : (8 : Int) ≤ (cc : Nat) := by omega
    have hc12 : (12 : Int) ≤ (cc : Nat) := by omega
    have hc15 : (15 : Int) ≤ (cc : Nat) := by omega
    have hn0 : ¬ cc = 0 := by omega
    have hn8 : ¬ cc = 8 := by omega
    have hn12 : ¬ cc = 12 := by omega
    rw [← hcc]
    clear hcc
    go_region_held3 (fun _ => True)
      (trivial)
      (first
        | (go_at_call 52
           (with_reducible refine (H1.out _ b (o + s) _ ((HT3.out.keep0 (by first | exact Ch.refl _ _ | exact (Ch.refl _ _).drew | exact ((Ch.refl _ _).drew).drew | exact (Ch.refl _ _).alloc _ | exact ((Ch.refl _ _).alloc _).drew | exact ((Ch.refl _ _).drew).alloc _ | exact Ch.drewQ _ _)).at 0 8 (o + s) (by omega) rfl)).mono ?_)
           rintro e w4 ⟨rfl, hC4⟩
           have hCC : Ch S0 w3 w4 := Ch.trans (by first | exact Ch.refl _ _ | exact (Ch.refl _ _).drew | exact ((Ch.refl _ _).drew).drew | exact (Ch.refl _ _).alloc _ | exact ((Ch.refl _ _).alloc _).drew | exact ((Ch.refl _ _).drew).alloc _ | exact Ch.drewQ _ _) hC4
           have HC4 := Lib.hid hCC
           clear hC4 hCC))
    go_wp2_with fail
    go_region_held3 (fun _ => True)
      (trivial)
      (first
        | (go_at_call 53
           (with_reducible refine (H2.out _ b (o + s + 8) _ ((HT3.out.keep0 (HC4.out.trans (by first | exact Ch.refl _ _ | exact (Ch.refl _ _).drew | exact ((Ch.refl _ _).drew).drew | exact (Ch.refl _ _).alloc _ | exact ((Ch.refl _ _).alloc _).drew | exact ((Ch.refl _ _).drew).alloc _ | exact Ch.drewQ _ _))).at 8 4 (o + s + 8) (by omega) rfl)).mono ?_)
           rintro e w5 ⟨rfl, hC5⟩
           have hCC : Ch S0 w3 w5 := HC4.out.trans (Ch.trans (by first | exact Ch.refl _ _ | exact (Ch.refl _ _).drew | exact ((Ch.refl _ _).drew).drew | exact (Ch.refl _ _).alloc _ | exact ((Ch.refl _ _).alloc _).drew | exact ((Ch.refl _ _).drew).alloc _ | exact Ch.drewQ _ _) hC5)
           have HC5 := Lib.hid hCC
           have c12 := (HT3.out.keep0 hCC).at 12 3 (o + s + 12) (by omega) rfl 0 (by omega)
           have c13 := (HT3.out.keep0 hCC).at 12 3 (o + s + 12) (by omega) rfl 1 (by omega)
           have c14 := (HT3.out.keep0 hCC).at 12 3 (o + s + 12) (by omega) rfl 2 (by omega)
           have hbl5 : b < w5.heap.size := by have := hCC.size; omega
           clear hC5 hCC))
    simp only [Nat.add_zero, Nat.add_assoc] at c12 c13 c14
    simp only [← Nat.add_assoc] at c12 c13 c14
    go_wp2_with fail
    go_quiet (fail)
    go_wp2_with fail
    refine ((mixw_ex p1 p2 l1 _).choose_spec.choose_spec _ d (HB3.out.keep (HC5.out.trans (by first | exact Ch.refl _ _ | exact (Ch.refl _ _).drew | exact ((Ch.refl _ _).drew).drew | exact Ch.drewQ _ _ | exact (Ch.refl _ _).drew.trans (Ch.drewQ _ _) | exact ((Ch.refl _ _).drew).drew.trans (Ch.drewQ _ _))) (fun h => h))).mono ?_
    rintro e w6 ⟨rfl, hB6, hC6⟩
    have HB6 := Lib.hid hB6
    have HC6 := Lib.hid (HC3.out.trans (Ch.trans ((HC5.out.trans (by first | exact Ch.refl _ _ | exact (Ch.refl _ _).drew | exact ((Ch.refl _ _).drew).drew | exact Ch.drewQ _ _ | exact (Ch.refl _ _).drew.trans (Ch.drewQ _ _) | exact ((Ch.refl _ _).drew).drew.trans (Ch.drewQ _ _))).mono (fun _ _ h => h.elim)) hC6))
    clear hB6 hC6 c12 c13 c14 HC3 HB3 HC4 HC5 HT3
    go_wp2_with fail
    · have hq3 := (s128_ex _ _ ((n : Int) + 1) f 0 (by decide) false (by decide)).choose_spec.choose_spec w6 d (some ⟨b, o, none⟩) (0) (Byts.nil _ _ _ _) HB6.out
      refine hq3.mono ?_
      clear hq3
      rintro e w7 ⟨rfl, hC7⟩
      have HC7 := Lib.hid (HC6.out.trans (hC7.mono (fun _ _ h => h.elim)))
      clear HC6 HB6 hC7
      go_wp2_with fail
      (try simp only [Exit.inBlock, Exit.then])
      refine bodyPost_ret (results_tmp4 rfl _ _ _) rfl ?_
      exact ⟨rfl, HC7.out⟩
    · have hq3 := (s128_ex _ _ ((n : Int) + 1) f 0 (by decide) false (by decide)).choose_spec.choose_spec w6 d (some ⟨b, o + n, none⟩) (cap - n) (Byts.nil _ _ _ _) HB6.out
      refine hq3.mono ?_
      clear hq3
      rintro e w7 ⟨rfl, hC7⟩
      have HC7 := Lib.hid (HC6.out.trans (hC7.mono (fun _ _ h => h.elim)))
      clear HC6 HB6 hC7
      go_wp2_with fail
      (try simp only [Exit.inBlock, Exit.then])
      refine bodyPost_ret (results_tmp4 rfl _ _ _) rfl ?_
      exact ⟨rfl, HC7.out⟩
end Go.Proofs.Ytagillnkdaanaaa
