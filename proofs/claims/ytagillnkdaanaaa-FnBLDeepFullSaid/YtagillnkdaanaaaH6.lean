/- WALKS: the places that a piece of data has in a filter: they hang on its bytes alone. -/
import Derived.Test.YtagillnkdaanaaaH5
namespace Go.Proofs.Ytagillnkdaanaaa
open Go.RowKit
set_option linter.unusedVariables false
set_option linter.unusedSimpArgs false

/-- A piece of data: n bytes. -/
structure Dat (w : World) (v : Value) (n : Nat) (f : Nat → Int) : Prop where
  small : n ≤ 80
  val : ∃ A cap, v = .slice A n cap ∧ n ≤ cap ∧ cap ≤ 9223372036854775807 ∧ (A = none → cap = 0) ∧ (∀ a, A = some a → a.spot = none) ∧ ∀ j, j < n → ∃ b o, A = some ⟨b, o, none⟩ ∧ w.cell? ⟨b, o + j, none⟩ = some (.int .u8 (f j))

theorem Dat.keep {w w' : World} {v : Value} {n : Nat} {f : Nat → Int} (h : Dat w v n f) (hc : Ch S0 w w') : Dat w' v n f := by
  obtain ⟨h0, A, cap, h1, h2, h3, h4, h5, h6⟩ := h
  refine ⟨h0, A, cap, h1, h2, h3, h4, h5, fun j hj => ?_⟩
  obtain ⟨b, o, k1, k2⟩ := h6 j hj
  exact ⟨b, o, k1, by rw [World.cell?_of_block (w := w) (hc.block b (World.block_lt_of_cell? w _ k2) (fun h => h))]; exact k2⟩
/-- The blocks of it are old. -/
theorem Dat.byts {w w' : World} {A : Option Addr} {cap n d : Nat} {f : Nat → Int} (h : Dat w (.slice A n cap) n f) (hc : Ch S0 w w') (hd : w.heap.size ≤ d) : Byts w' A n f d := fun j hj => by
  obtain ⟨h0, A', cap', h1, h2, h3, h4, h5, h6⟩ := h
  injection h1 with e1 e2 e3
  subst e1
  obtain ⟨b, o, k1, k2⟩ := h6 j hj
  have hl := World.block_lt_of_cell? w _ k2
  exact ⟨b, o, by simp only at hl; omega, k1, by rw [World.cell?_of_block (w := w) (hc.block b hl (fun h => h))]; exact k2⟩

theorem sum256_ex (n : Nat) (f : Nat → Int) (hn : n ≤ 80) : ∃ r1 r2 r3 r4 : Int, ∀ (w w' : World) (d : Nat) (A : Option Addr) (cap : Nat) (x y : Int), Dat w (.slice A n cap) n f → Ch S0 w w' → w.heap.size ≤ d → Blk w' d #[.int .u64 x, .int .u64 y] →
    Calls Try.prog 42 #[.pointer (some ⟨d, 0, none⟩), .slice A n cap] w' fun e w2 => e = .returned (.tuple #[.int .u64 r1, .int .u64 r2, .int .u64 r3, .int .u64 r4]) ∧ Ch (S1 d) w' w2 := by
  by_cases h0 : n = 0
  · subst h0
    obtain ⟨r1, r2, r3, r4, h⟩ := sum256_zero f
    refine ⟨r1, r2, r3, r4, fun w w' d A cap x y hD hc hd hB => ?_⟩
    obtain ⟨_, A', cap', h1, h2, h3, h4, h5, h6⟩ := hD
    injection h1 with e1 e2 e3
    subst e1 e3
    exact h w' d A cap x y h3 h4 h5 hB
  · by_cases h15 : n % 16 = 15
    · obtain ⟨r1, r2, r3, r4, h⟩ := sum256_15 f n (n - 15) hn (by omega) h15
      refine ⟨r1, r2, r3, r4, fun w w' d A cap x y hD hc hd hB => ?_⟩
      have hb := hD.byts hc hd
      obtain ⟨_, A', cap', h1, h2, h3, h4, h5, h6⟩ := hD
      injection h1 with e1 e2 e3
      subst e1 e3
      exact h w' d A cap x y h2 h3 hb hB
    · obtain ⟨r1, r2, r3, r4, h⟩ := sum256_tail f n (n - n % 16) (n % 16) hn (by omega) (by omega) rfl (by omega)
      refine ⟨r1, r2, r3, r4, fun w w' d A cap x y hD hc hd hB => ?_⟩
      have hb := hD.byts hc hd
      obtain ⟨_, A', cap', h1, h2, h3, h4, h5, h6⟩ := hD
      injection h1 with e1 e2 e3
      subst e1 e3
      exact h w' d A cap x y h2 h3 hb hB

set_option maxRecDepth 100000 in
set_option maxHeartbeats 1000000 in
theorem base_ex (n : Nat) (f : Nat → Int) (hn : n ≤ 80) : ∃ r1 r2 r3 r4 : Int, ∀ (w : World) (v : Value), Dat w v n f →
    Calls Try.prog 30 #[v] w fun e w' => e = .returned (.agg #[.int .u64 r1, .int .u64 r2, .int .u64 r3, .int .u64 r4]) ∧ Ch S0 w w' := by
  obtain ⟨r1, r2, r3, r4, h⟩ := sum256_ex n f hn
  refine ⟨r1, r2, r3, r4, fun w v hD => ?_⟩
  obtain ⟨A, cap, rfl⟩ : ∃ A cap, v = .slice A n cap := by obtain ⟨_, A, cap, h1, _⟩ := hD; exact ⟨A, cap, h1⟩
  have H := Lib.hid h
  have HD := Lib.hid hD
  clear h hD
  go_enter Try.func30, Try.ntmps30
  go_wp2_with fail
  have hc1 : Ch S0 w ((w.alloc (Obj.cells #[Value.int IntKind.u64 0, Value.int IntKind.u64 0, Value.int IntKind.u64 0, Value.int IntKind.u64 0] 61)).alloc (Obj.cells #[Value.int IntKind.u64 0, Value.int IntKind.u64 0] 77)) := ((Ch.refl _ _).alloc _).alloc _
  have hB0 : Blk ((w.alloc (Obj.cells #[Value.int IntKind.u64 0, Value.int IntKind.u64 0, Value.int IntKind.u64 0, Value.int IntKind.u64 0] 61)).alloc (Obj.cells #[Value.int IntKind.u64 0, Value.int IntKind.u64 0] 77)) w.heap.size #[Value.int IntKind.u64 0, Value.int IntKind.u64 0, Value.int IntKind.u64 0, Value.int IntKind.u64 0] := (Blk.new _ _ _).alloc _
  have hB1 : Blk ((w.alloc (Obj.cells #[Value.int IntKind.u64 0, Value.int IntKind.u64 0, Value.int IntKind.u64 0, Value.int IntKind.u64 0] 61)).alloc (Obj.cells #[Value.int IntKind.u64 0, Value.int IntKind.u64 0] 77)) (w.heap.size + 1) #[Value.int IntKind.u64 0, Value.int IntKind.u64 0] := by
    have := Blk.new (w.alloc (Obj.cells #[Value.int IntKind.u64 0, Value.int IntKind.u64 0, Value.int IntKind.u64 0, Value.int IntKind.u64 0] 61)) #[Value.int IntKind.u64 0, Value.int IntKind.u64 0] 77
    simpa using this
  have hq := H.out w _ (w.heap.size + 1) A cap 0 0 HD.out hc1 (by omega) hB1
  refine hq.mono ?_
  rintro e w2 ⟨rfl, hC2⟩
  have hB2 := hB0.keep hC2 (show ¬ S1 (w.heap.size + 1) w.heap.size from Nat.ne_of_lt (Nat.lt_succ_self _))
  have b0 := hB2.cell 0
  have b1 := hB2.cell 1
  have b2 := hB2.cell 2
  have b3 := hB2.cell 3
  have g0 := hB2.free 0
  have g1 := hB2.free 1
  have g2 := hB2.free 2
  have g3 := hB2.free 3
  simp only [List.getElem?_toArray, List.getElem?_cons_zero, List.getElem?_cons_succ] at b0 b1 b2 b3
  have HC2 := Lib.hid (hc1.trans' hC2 (fun k hk hs => by cases hs; omega))
  clear hq hB0 hB1 hB2 hC2 hc1
  go_wp2_with fail
  exact bodyPost_ret (v := .agg #[.int .u64 r1, .int .u64 r2, .int .u64 r3, .int .u64 r4]) (by simp [results, Try.results30, go_sem, b0, b1, b2, b3, g0, g1, g2, g3]) rfl ⟨rfl, ((((HC2.out.setCell _ (fun h => absurd h (by simp)) _).setCell _ (fun h => absurd h (by simp)) _).setCell _ (fun h => absurd h (by simp)) _).setCell _ (fun h => absurd h (by simp)) _)⟩
end Go.Proofs.Ytagillnkdaanaaa
