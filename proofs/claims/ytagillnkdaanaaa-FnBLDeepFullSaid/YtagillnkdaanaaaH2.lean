/- WALKS: whole blocks of the hash. -/
import Derived.Test.YtagillnkdaanaaaH1
import Derived.Deep.RegionHeld3
namespace Go.Proofs.Ytagillnkdaanaaa
open Go.RowKit
set_option linter.unusedVariables false
set_option linter.unusedSimpArgs false

/-- n bytes at A, outside block d. -/
def Byts (w : World) (A : Option Addr) (n : Nat) (f : Nat → Int) (d : Nat) : Prop := ∀ j, j < n → ∃ b o, b ≠ d ∧ A = some ⟨b, o, none⟩ ∧ w.cell? ⟨b, o + j, none⟩ = some (.int .u8 (f j))

theorem Byts.keep {w w' : World} {A : Option Addr} {n : Nat} {f : Nat → Int} {d : Nat} (h : Byts w A n f d) (hc : Ch (S1 d) w w') : Byts w' A n f d := fun j hj => by
  obtain ⟨b, o, h1, h2, h3⟩ := h j hj
  exact ⟨b, o, h1, h2, by rw [World.cell?_of_block (w := w) (hc.block b (World.block_lt_of_cell? w _ h3) h1)]; exact h3⟩
theorem Byts.keep0 {w w' : World} {A : Option Addr} {n : Nat} {f : Nat → Int} {d : Nat} (h : Byts w A n f d) (hc : Ch S0 w w') : Byts w' A n f d := h.keep (hc.mono (fun _ _ h => h.elim))

theorem Byts.at {w : World} {b o n : Nat} {f : Nat → Int} {d : Nat} (h : Byts w (some ⟨b, o, none⟩) n f d) (k m o' : Nat) (hk : k + m ≤ n) (ho : o' = o + k) : ∀ j, j < m → w.cell? ⟨b, o' + j, none⟩ = some (.int .u8 (f (k + j))) := fun j hj => by
  obtain ⟨b', o2, h1, h2, h3⟩ := h (k + j) (by omega)
  simp only [Option.some.injEq, Addr.mk.injEq, and_true] at h2
  obtain ⟨rfl, rfl⟩ := h2
  rw [ho, Nat.add_assoc]
  exact h3

theorem fold_ex (G : Nat → Int × Int → Int × Int) (x : Int × Int) : ∃ F : Nat → Int × Int, F 0 = x ∧ ∀ i, F (i + 1) = G i (F i) := ⟨fun n => Nat.rec x (fun i y => G i y) n, rfl, fun _ => rfl⟩

set_option maxRecDepth 100000 in
set_option maxHeartbeats 2000000 in
theorem bmix_ex (f : Nat → Int) (h1 h2 : Int) (n : Nat) (hn : n ≤ 80) : ∃ r1 r2 : Int, ∀ (w : World) (d : Nat) (A : Option Addr) (cap : Nat), n ≤ cap → cap ≤ 9223372036854775807 → Byts w A n f d → Blk w d #[.int .u64 h1, .int .u64 h2] →
    Calls Try.prog 50 #[.pointer (some ⟨d, 0, none⟩), .slice A n cap] w fun e w' => e = .returned (.tuple #[]) ∧ Blk w' d #[.int .u64 r1, .int .u64 r2] ∧ Ch (S1 d) w w' := by
  obtain ⟨F, F0, FS⟩ := fold_ex (fun i x => ((mixw_ex x.1 x.2 (le64_ex fun j => f (i * 16 + j)).choose (le64_ex fun j => f (i * 16 + 8 + j)).choose).choose, (mixw_ex x.1 x.2 (le64_ex fun j => f (i * 16 + j)).choose (le64_ex fun j => f (i * 16 + 8 + j)).choose).choose_spec.choose)) (h1, h2)
  obtain ⟨N, hN⟩ : ∃ N, N = n / 16 := ⟨_, rfl⟩
  refine ⟨(F N).1, (F N).2, fun w d A cap hcap hcap2 hD hB => ?_⟩
  have hN2 : (n : Int) / 16 = (N : Int) := by omega
  have hN3 : 16 * N ≤ n := by omega
  have F0' := Lib.hid F0
  have FS' := Lib.hid FS
  have HD := Lib.hid hD
  have HB := Lib.hid hB
  clear F0 FS hD hB hN
  have hdl := HB.out.lt
  go_enter Try.func50, Try.ntmps50
  go_wp2_with fail
  go_loopw [5] (fun k wr => ∃ i : Nat, i ≤ N ∧ k = .int .i64 i ∧ Blk wr d #[.int .u64 (F i).1, .int .u64 (F i).2] ∧ Ch (S1 d) w wr) (fun k _ => N - (intOf k).toNat)
  case atStart => exact ⟨0, by omega, rfl, by rw [F0'.out]; exact HB.out, Ch.refl _ _⟩
  case round =>
    obtain ⟨i, hi, rfl, hb, hc⟩ := hrel
    by_cases hlt : i < N
    · have hD2 := HD.out.keep hc
      obtain ⟨b, o, hbd, hA, hc0⟩ := hD2 0 (by omega)
      subst hA
      have hbl := World.block_lt_of_cell? wr _ hc0
      have HDr := Lib.hid hD2
      have HBr := Lib.hid hb
      have HCr := Lib.hid hc
      clear hD2 hc0 hb hc
      have i1 : (0 : Int) ≤ (i : Int) * 16 := by omega
      have i2 : (i : Int) * 16 ≤ ((i : Int) + 1) * 16 := by omega
      have i3 : ((i : Int) + 1) * 16 ≤ (cap : Int) := by omega
      have i4 : ((i : Int) * 16).toNat = i * 16 := by omega
      have i5 : (((i : Int) + 1) * 16).toNat = i * 16 + 16 := by omega
      go_wp2_with fail
      obtain ⟨cc, hcc⟩ : ∃ cc, cc = cap - i * 16 := ⟨_, rfl⟩
      have hc8 : (8 : Int) ≤ (cc : Nat) := by omega
      have hc16 : (16 : Int) ≤ (cc : Nat) := by omega
      rw [← hcc]
      clear hcc
      go_region_held3 (fun _ => True)
        (trivial)
        (first
          | (go_at_call 52
             (with_reducible refine ((le64_ex fun j => f (i * 16 + j)).choose_spec _ b (o + i * 16) _ ((HDr.out.keep0 (by first | exact Ch.refl _ _ | exact (Ch.refl _ _).drew | exact ((Ch.refl _ _).drew).drew | exact (Ch.refl _ _).alloc _ | exact ((Ch.refl _ _).alloc _).drew | exact ((Ch.refl _ _).drew).alloc _)).at (i * 16) 8 (o + i * 16) (by omega) rfl)).mono ?_)
             rintro e w2 ⟨rfl, hC2⟩
             have hCC : Ch S0 wr w2 := Ch.trans (by first | exact Ch.refl _ _ | exact (Ch.refl _ _).drew | exact ((Ch.refl _ _).drew).drew | exact (Ch.refl _ _).alloc _ | exact ((Ch.refl _ _).alloc _).drew | exact ((Ch.refl _ _).drew).alloc _) hC2
             have HC2 := Lib.hid hCC
             clear hC2 hCC)
          | (go_at_call 52
             (with_reducible refine ((le64_ex fun j => f (i * 16 + 8 + j)).choose_spec _ b (o + i * 16 + 8) _ ((HDr.out.keep0 (HC2.out.trans (by first | exact Ch.refl _ _ | exact (Ch.refl _ _).drew | exact ((Ch.refl _ _).drew).drew | exact (Ch.refl _ _).alloc _ | exact ((Ch.refl _ _).alloc _).drew | exact ((Ch.refl _ _).drew).alloc _))).at (i * 16 + 8) 8 (o + i * 16 + 8) (by omega) (by omega))).mono ?_)
             rintro e w3 ⟨rfl, hC3⟩
             have hCC : Ch S0 wr w3 := HC2.out.trans (Ch.trans (by first | exact Ch.refl _ _ | exact (Ch.refl _ _).drew | exact ((Ch.refl _ _).drew).drew | exact (Ch.refl _ _).alloc _ | exact ((Ch.refl _ _).alloc _).drew | exact ((Ch.refl _ _).drew).alloc _) hC3)
             have HC3 := Lib.hid hCC
             clear hC3 hCC))
      go_wp2_with fail
      have hCC : Ch S0 wr _ := HC3.out.trans (by first | exact Ch.refl _ _ | exact (Ch.refl _ _).drew | exact ((Ch.refl _ _).drew).drew | exact (Ch.refl _ _).alloc _ | exact ((Ch.refl _ _).alloc _).drew | exact ((Ch.refl _ _).drew).alloc _)
      refine ((mixw_ex _ _ _ _).choose_spec.choose_spec _ d (HBr.out.keep hCC (fun h => h))).mono ?_
      rintro e w4 ⟨rfl, hB4, hC4⟩
      have HB4 := Lib.hid hB4
      have HC4 := Lib.hid (HCr.out.trans (Ch.trans (hCC.mono (fun _ _ h => h.elim)) hC4))
      clear hB4 hC4 hCC
      go_wp2_with fail
      go_roundw
      case rel => exact ⟨i + 1, by omega, by go_num, by rw [FS'.out]; exact HB4.out, HC4.out⟩
      case measure => simp [intOf]; omega
    · obtain rfl : i = N := by omega
      have HBr := Lib.hid hb
      have HCr := Lib.hid hc
      clear hb hc
      go_wp2_with fail
      go_end0
      exact ⟨rfl, HBr.out, HCr.out⟩
end Go.Proofs.Ytagillnkdaanaaa
