/- WALKS: the places of a piece of data in a filter. -/
import Derived.Test.YtagillnkdaanaaaD
namespace Go.Proofs.Ytagillnkdaanaaa
open Go.RowKit
set_option linter.unusedVariables false
set_option linter.unusedSimpArgs false

/-- loc i is the place of the data's i-th hash among M. -/
def IsLoc (n : Nat) (f : Nat → Int) (M : Nat) (loc : Nat → Nat) : Prop :=
  ∃ h1 h2 h3 h4 : Int, (∀ (w : World) (v : Value), Dat w v n f → Calls Try.prog 30 #[v] w fun e w' => e = .returned (.agg #[.int .u64 h1, .int .u64 h2, .int .u64 h3, .int .u64 h4]) ∧ Ch S0 w w') ∧
    ∀ i, i < 8 → loc i < M ∧ ∀ (w : World) (fb : Nat) (y z : Value), Blk w fb #[.int .u64 M, y, z] →
      Calls Try.prog 32 #[.pointer (some ⟨fb, 0, none⟩), .agg #[.int .u64 h1, .int .u64 h2, .int .u64 h3, .int .u64 h4], .int .u64 i] w fun e w' => e = .returned (.int .u64 (loc i : Nat)) ∧ Ch S0 w w'

set_option maxRecDepth 100000 in
set_option maxHeartbeats 1000000 in
theorem location_any (h1 h2 h3 h4 : Int) (i M p : Nat) (hM : 0 < M) (hM2 : M ≤ 64000) (r : Int) (hp : r.tmod M = (p : Nat))
    (hc : ∀ w : World, Calls Try.prog 44 #[.agg #[.int .u64 h1, .int .u64 h2, .int .u64 h3, .int .u64 h4], .int .u64 i] w fun e w' => e = .returned (.int .u64 r) ∧ Ch S0 w w') (w : World) (fb : Nat) (y z : Value) (hB : Blk w fb #[.int .u64 M, y, z]) :
    Calls Try.prog 32 #[.pointer (some ⟨fb, 0, none⟩), .agg #[.int .u64 h1, .int .u64 h2, .int .u64 h3, .int .u64 h4], .int .u64 i] w fun e w' => e = .returned (.int .u64 (p : Nat)) ∧ Ch S0 w w' := by
  have hM0 : ¬ ((M : Int) = 0) := by omega
  have hM4 : ¬ M = 0 := by omega
  have hM6 : (M == 0) = false := by simp; omega
  have HC := Lib.hid hc
  have HF := Lib.hid (hB.alloc (Obj.cells #[Value.int .u64 h1, .int .u64 h2, .int .u64 h3, .int .u64 h4] 61))
  have HA := Lib.hid (Blk.new w #[Value.int .u64 h1, .int .u64 h2, .int .u64 h3, .int .u64 h4] 61)
  have HC0 := Lib.hid ((Ch.refl S0 w).alloc (Obj.cells #[Value.int .u64 h1, .int .u64 h2, .int .u64 h3, .int .u64 h4] 61))
  clear hc hB
  go_enter Try.func32, Try.ntmps32
  go_wp2_with fail
  generalize w.alloc (Obj.cells #[Value.int .u64 h1, .int .u64 h2, .int .u64 h3, .int .u64 h4] 61) = w0 at *
  have c0 := HF.out.cell 0
  have a0 := HA.out.cell 0
  have a1 := HA.out.cell 1
  have a2 := HA.out.cell 2
  have a3 := HA.out.cell 3
  simp only [List.getElem?_toArray, List.getElem?_cons_zero, List.getElem?_cons_succ] at c0 a0 a1 a2 a3
  go_region_held3 (fun w' => w'.cell? ⟨fb, 0, none⟩ = some (.int .u64 (M : Nat)) ∧ w'.cell? ⟨w.heap.size, 0, none⟩ = some (.int .u64 h1) ∧ w'.cell? ⟨w.heap.size, 1, none⟩ = some (.int .u64 h2) ∧ w'.cell? ⟨w.heap.size, 2, none⟩ = some (.int .u64 h3) ∧ w'.cell? ⟨w.heap.size, 3, none⟩ = some (.int .u64 h4))
    (first | ((try dsimp only); (repeat' apply And.intro) <;> assumption) | (go_keep; done))
    (first
      | (go_at_call 44
         (with_reducible refine (HC.out _).mono ?_)
         rintro e w1 ⟨rfl, hC1⟩
         have hCC : Ch S0 w0 w1 := Ch.trans (by first | exact Ch.refl S0 _ | exact (Ch.refl S0 _).drew | exact ((Ch.refl S0 _).drew).drew | exact (Ch.refl S0 _).alloc _ | exact ((Ch.refl S0 _).alloc _).drew | exact ((Ch.refl S0 _).drew).alloc _) hC1
         have HF1 := HF.out.keep hCC (fun h => h)
         have HA1 := HA.out.keep hCC (fun h => h)
         have HCC := Lib.hid (HC0.out.trans hCC)
         clear hC1 hCC c0 a0 a1 a2 a3
         have c0 := HF1.cell 0
         have a0 := HA1.cell 0
         have a1 := HA1.cell 1
         have a2 := HA1.cell 2
         have a3 := HA1.cell 3
         simp only [List.getElem?_toArray, List.getElem?_cons_zero, List.getElem?_cons_succ] at c0 a0 a1 a2 a3
         clear HF1 HA1))
  all_goals
    go_wp2_with fail
    go_ret
    exact ⟨by first | rfl | (rw [hp]), HCC.out.trans (by first | exact Ch.refl S0 _ | exact (Ch.refl S0 _).drew | exact ((Ch.refl S0 _).drew).drew | exact (Ch.refl S0 _).alloc _ | exact ((Ch.refl S0 _).alloc _).drew | exact ((Ch.refl S0 _).drew).alloc _)⟩

theorem isLoc_ex (n : Nat) (f : Nat → Int) (M : Nat) (hn : n ≤ 80) (hM : 0 < M) (hM2 : M ≤ 64000) : ∃ loc : Nat → Nat, IsLoc n f M loc := by
  obtain ⟨h1, h2, h3, h4, hb⟩ := base_ex n f hn
  refine ⟨fun i => if h : i < 8 then ((loc_ex h1 h2 h3 h4 i h).choose % (M : Int)).toNat else 0, h1, h2, h3, h4, hb, fun i hi => ?_⟩
  have hs := (loc_ex h1 h2 h3 h4 i hi).choose_spec
  have hlt : (loc_ex h1 h2 h3 h4 i hi).choose % (M : Int) < M := Int.emod_lt_of_pos _ (by omega)
  have hge : 0 ≤ (loc_ex h1 h2 h3 h4 i hi).choose % (M : Int) := Int.emod_nonneg _ (by omega)
  simp only [dif_pos hi]
  refine ⟨by omega, fun w fb y z hB => location_any h1 h2 h3 h4 i M _ hM hM2 _ ?_ hs.2 w fb y z hB⟩
  rw [Int.tmod_eq_emod_of_nonneg hs.1]
  omega
end Go.Proofs.Ytagillnkdaanaaa
