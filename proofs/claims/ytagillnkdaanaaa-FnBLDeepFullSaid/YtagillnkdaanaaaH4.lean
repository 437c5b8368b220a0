/- WALKS: the whole hash. -/
import Derived.Test.YtagillnkdaanaaaH3
namespace Go.Proofs.Ytagillnkdaanaaa
open Go.RowKit
set_option linter.unusedVariables false
set_option linter.unusedSimpArgs false

theorem results_tmp4 {fn : Func} {t u v x : Tmp} (h : fn.results = #[.tmp t, .tmp u, .tmp v, .tmp x]) (tmps : Array Value) (P : Program) (w : World) :
    (results fn tmps).run P w = .ok (.tuple #[tmps.getD t undef, tmps.getD u undef, tmps.getD v undef, tmps.getD x undef]) w := by
  simp [results, h]
theorem Byts.tail {w : World} {b o n : Nat} {f : Nat → Int} {d : Nat} (h : Byts w (some ⟨b, o, none⟩) n f d) (s t : Nat) (hs : s + t ≤ n) : Byts w (some ⟨b, o + s, none⟩) t (fun j => f (s + j)) d := fun j hj => by
  obtain ⟨b', o', h1, h2, h3⟩ := h (s + j) (by omega)
  simp only [Option.some.injEq, Addr.mk.injEq, and_true] at h2
  obtain ⟨rfl, rfl⟩ := h2
  exact ⟨b, _, h1, rfl, by rw [Nat.add_assoc]; exact h3⟩
theorem Byts.zero {t : Nat} (w : World) (A : Option Addr) (f : Nat → Int) (d : Nat) (ht : t = 0) : Byts w A t f d := fun j hj => by omega
theorem Byts.nil (w : World) (A : Option Addr) (f : Nat → Int) (d : Nat) : Byts w A 0 f d := fun j hj => by omega

set_option maxRecDepth 100000 in
set_option maxHeartbeats 4000000 in
theorem sum256_tail (f : Nat → Int) (n s t : Nat) (hn : n ≤ 80) (h0 : 0 < n) (hs : n = s + t) (ht : n % 16 = t) (h15 : t < 15) : ∃ r1 r2 r3 r4 : Int, ∀ (w : World) (d : Nat) (A : Option Addr) (cap : Nat) (x y : Int), n ≤ cap → cap ≤ 9223372036854775807 → Byts w A n f d → Blk w d #[.int .u64 x, .int .u64 y] →
    Calls Try.prog 42 #[.pointer (some ⟨d, 0, none⟩), .slice A n cap] w fun e w' => e = .returned (.tuple #[.int .u64 r1, .int .u64 r2, .int .u64 r3, .int .u64 r4]) ∧ Ch (S1 d) w w' := by
  have i1 : (n : Int) % 16 = (t : Int) := by omega
  have i2 : (0 : Int) ≤ (n : Int) - (t : Int) := by omega
  have i3 : ((n : Int) - (t : Int)).toNat = s := by omega
  have i4 : (n : Int) - (t : Int) ≤ (n : Int) := by omega
  have i5 : n - s = t := by omega
  have i6 : ¬ ((t : Int) + 1 = 16) := by omega
  have HT := Lib.hid ht
  have HS := Lib.hid hs
  clear ht hs
  obtain ⟨p1, p2, hp⟩ := bmix_ex f 0 0 n hn
  obtain ⟨q1, q2, hq⟩ := s128_ex p1 p2 (n : Int) (fun j => f (s + j)) t (by omega) false (fun h => by cases h)
  obtain ⟨q3, q4, hr⟩ := s128_ex p1 p2 ((n : Int) + 1) (fun j => f (s + j)) t (by omega) true (fun _ => h15)
  have HP := Lib.hid hp
  have HQ := Lib.hid hq
  have HR := Lib.hid hr
  clear hp hq hr
  refine ⟨q1, q2, q3, q4, fun w d A cap x y hcap hcap2 hD hB => ?_⟩
  obtain ⟨b, o, hbd, rfl, hc0⟩ := hD 0 h0
  have hbl := World.block_lt_of_cell? w _ hc0
  simp only at hbl
  have HD := Lib.hid hD
  have HB := Lib.hid hB
  clear hD hB hc0
  have d0 := HB.out.cell 0
  have d1 := HB.out.cell 1
  have e0 := HB.out.free 0
  have e1 := HB.out.free 1
  simp only [List.getElem?_toArray, List.getElem?_cons_zero, List.getElem?_cons_succ] at d0 d1
  go_enter Try.func42, Try.ntmps42
  go_wp2_with fail
  have hB1 : Blk ((w.setCell ⟨d, 0, none⟩ (.int .u64 0)).setCell ⟨d, 1, none⟩ (.int .u64 0)) d #[.int .u64 0, .int .u64 0] := (HB.out.set 0 _).set 1 _
  have hC1 : Ch (S1 d) w ((w.setCell ⟨d, 0, none⟩ (.int .u64 0)).setCell ⟨d, 1, none⟩ (.int .u64 0)) := ((Ch.refl _ _).setCell _ (fun _ => show S1 d d from rfl) _).setCell _ (fun _ => show S1 d d from rfl) _
  refine (HP.out _ d _ cap hcap hcap2 (HD.out.keep hC1) hB1).mono ?_
  rintro e w2 ⟨rfl, hB2, hC2⟩
  have HC2 := Lib.hid (hC1.trans hC2)
  have HB2 := Lib.hid hB2
  clear hB1 hC1 hB2 hC2 d0 d1 e0 e1 HB
  go_wp2_with fail
  · have HT0 := Lib.hid (show t = 0 by have := HS.out; omega)
    have hq3 := HQ.out w2 d (some ⟨b, o, none⟩) 0 (Byts.zero _ _ _ _ HT0.out) HB2.out
    refine hq3.mono ?_
    clear hq3
    rintro e w3 ⟨rfl, hC3⟩
    have HC3 := Lib.hid (HC2.out.trans (hC3.mono (fun _ _ h => h.elim)))
    have HB3 := Lib.hid (HB2.out.keep hC3 (fun h => h))
    clear HC2 HB2 hC3
    go_wp2_with fail
    have hq3 := HR.out w3 d (some ⟨b, o, none⟩) 0 (Byts.zero _ _ _ _ HT0.out) HB3.out
    refine hq3.mono ?_
    clear hq3
    rintro e w4 ⟨rfl, hC4⟩
    have HC4 := Lib.hid (HC3.out.trans (hC4.mono (fun _ _ h => h.elim)))
    clear HC3 HB3 hC4
    go_wp2_with fail
    (try simp only [Exit.inBlock, Exit.then])
    refine bodyPost_ret (results_tmp4 rfl _ _ _) rfl ?_
    exact ⟨rfl, HC4.out⟩
  · have hb3 := (HD.out.keep HC2.out).tail s t (by have := HS.out; omega)
    have hq3 := HQ.out w2 d (some ⟨b, o + s, none⟩) (cap - s) hb3 HB2.out
    refine hq3.mono ?_
    clear hq3 hb3
    rintro e w3 ⟨rfl, hC3⟩
    have HC3 := Lib.hid (HC2.out.trans (hC3.mono (fun _ _ h => h.elim)))
    have HB3 := Lib.hid (HB2.out.keep hC3 (fun h => h))
    clear HC2 HB2 hC3
    go_wp2_with fail
    have hb3 := (HD.out.keep HC3.out).tail s t (by have := HS.out; omega)
    have hq3 := HR.out w3 d (some ⟨b, o + s, none⟩) (cap - s) hb3 HB3.out
    refine hq3.mono ?_
    clear hq3 hb3
    rintro e w4 ⟨rfl, hC4⟩
    have HC4 := Lib.hid (HC3.out.trans (hC4.mono (fun _ _ h => h.elim)))
    clear HC3 HB3 hC4
    go_wp2_with fail
    (try simp only [Exit.inBlock, Exit.then])
    refine bodyPost_ret (results_tmp4 rfl _ _ _) rfl ?_
    exact ⟨rfl, HC4.out⟩

set_option maxRecDepth 100000 in
set_option maxHeartbeats 4000000 in
theorem sum256_zero (f : Nat → Int) : ∃ r1 r2 r3 r4 : Int, ∀ (w : World) (d : Nat) (A : Option Addr) (cap : Nat) (x y : Int), cap ≤ 9223372036854775807 → (A = none → cap = 0) → (∀ a, A = some a → a.spot = none) → Blk w d #[.int .u64 x, .int .u64 y] →
    Calls Try.prog 42 #[.pointer (some ⟨d, 0, none⟩), .slice A 0 cap] w fun e w' => e = .returned (.tuple #[.int .u64 r1, .int .u64 r2, .int .u64 r3, .int .u64 r4]) ∧ Ch (S1 d) w w' := by
  obtain ⟨p1, p2, hp⟩ := bmix_ex f 0 0 0 (by omega)
  obtain ⟨q1, q2, hq⟩ := s128_ex p1 p2 0 f 0 (by omega) false (fun h => by cases h)
  obtain ⟨q3, q4, hr⟩ := s128_ex p1 p2 1 f 0 (by omega) true (fun _ => by omega)
  have HP := Lib.hid hp
  have HQ := Lib.hid hq
  have HR := Lib.hid hr
  clear hp hq hr
  refine ⟨q1, q2, q3, q4, fun w d A cap x y hcap2 hA hsp hB => ?_⟩
  have HB := Lib.hid hB
  clear hB
  cases A with
  | none =>
    obtain rfl := hA rfl
    clear hA hsp
    have d0 := HB.out.cell 0
    have d1 := HB.out.cell 1
    have e0 := HB.out.free 0
    have e1 := HB.out.free 1
    simp only [List.getElem?_toArray, List.getElem?_cons_zero, List.getElem?_cons_succ] at d0 d1
    go_enter Try.func42, Try.ntmps42
    go_wp2_with fail
    have hB1 : Blk ((w.setCell ⟨d, 0, none⟩ (.int .u64 0)).setCell ⟨d, 1, none⟩ (.int .u64 0)) d #[.int .u64 0, .int .u64 0] := (HB.out.set 0 _).set 1 _
    have hC1 : Ch (S1 d) w ((w.setCell ⟨d, 0, none⟩ (.int .u64 0)).setCell ⟨d, 1, none⟩ (.int .u64 0)) := ((Ch.refl _ _).setCell _ (fun _ => show S1 d d from rfl) _).setCell _ (fun _ => show S1 d d from rfl) _
    have hq1 := HP.out _ d none 0 (by omega) (by omega) (Byts.nil _ _ _ _) hB1
    refine hq1.mono ?_
    rintro e w2 ⟨rfl, hB2, hC2⟩
    have HC2 := Lib.hid (hC1.trans hC2)
    have HB2 := Lib.hid hB2
    clear hB1 hC1 hB2 hC2 d0 d1 e0 e1 HB hq1
    go_wp2_with fail
    have hq3 := HQ.out w2 d none 0 (Byts.nil _ _ _ _) HB2.out
    refine hq3.mono ?_
    clear hq3
    rintro e w3 ⟨rfl, hC3⟩
    have HC3 := Lib.hid (HC2.out.trans (hC3.mono (fun _ _ h => h.elim)))
    have HB3 := Lib.hid (HB2.out.keep hC3 (fun h => h))
    clear HC2 HB2 hC3
    go_wp2_with fail
    have hq3 := HR.out w3 d none 0 (Byts.nil _ _ _ _) HB3.out
    refine hq3.mono ?_
    clear hq3
    rintro e w4 ⟨rfl, hC4⟩
    have HC4 := Lib.hid (HC3.out.trans (hC4.mono (fun _ _ h => h.elim)))
    clear HC3 HB3 hC4
    go_wp2_with fail
    (try simp only [Exit.inBlock, Exit.then])
    refine bodyPost_ret (results_tmp4 rfl _ _ _) rfl ?_
    exact ⟨rfl, HC4.out⟩
  | some a =>
    obtain ⟨b, o, sp⟩ := a
    obtain rfl : sp = none := hsp _ rfl
    clear hA hsp
    have d0 := HB.out.cell 0
    have d1 := HB.out.cell 1
    have e0 := HB.out.free 0
    have e1 := HB.out.free 1
    simp only [List.getElem?_toArray, List.getElem?_cons_zero, List.getElem?_cons_succ] at d0 d1
    go_enter Try.func42, Try.ntmps42
    go_wp2_with fail
    have hB1 : Blk ((w.setCell ⟨d, 0, none⟩ (.int .u64 0)).setCell ⟨d, 1, none⟩ (.int .u64 0)) d #[.int .u64 0, .int .u64 0] := (HB.out.set 0 _).set 1 _
    have hC1 : Ch (S1 d) w ((w.setCell ⟨d, 0, none⟩ (.int .u64 0)).setCell ⟨d, 1, none⟩ (.int .u64 0)) := ((Ch.refl _ _).setCell _ (fun _ => show S1 d d from rfl) _).setCell _ (fun _ => show S1 d d from rfl) _
    have hq1 := HP.out _ d (some ⟨b, o, none⟩) cap (by omega) (by omega) (Byts.nil _ _ _ _) hB1
    refine hq1.mono ?_
    rintro e w2 ⟨rfl, hB2, hC2⟩
    have HC2 := Lib.hid (hC1.trans hC2)
    have HB2 := Lib.hid hB2
    clear hB1 hC1 hB2 hC2 d0 d1 e0 e1 HB hq1
    go_wp2_with fail
    have hq3 := HQ.out w2 d (some ⟨b, o, none⟩) cap (Byts.nil _ _ _ _) HB2.out
    refine hq3.mono ?_
    clear hq3
    rintro e w3 ⟨rfl, hC3⟩
    have HC3 := Lib.hid (HC2.out.trans (hC3.mono (fun _ _ h => h.elim)))
    have HB3 := Lib.hid (HB2.out.keep hC3 (fun h => h))
    clear HC2 HB2 hC3
    go_wp2_with fail
    have hq3 := HR.out w3 d (some ⟨b, o, none⟩) cap (Byts.nil _ _ _ _) HB3.out
    refine hq3.mono ?_
    clear hq3
    rintro e w4 ⟨rfl, hC4⟩
    have HC4 := Lib.hid (HC3.out.trans (hC4.mono (fun _ _ h => h.elim)))
    clear HC3 HB3 hC4
    go_wp2_with fail
    (try simp only [Exit.inBlock, Exit.then])
    refine bodyPost_ret (results_tmp4 rfl _ _ _) rfl ?_
    exact ⟨rfl, HC4.out⟩
end Go.Proofs.Ytagillnkdaanaaa
