/- ROWS: a slice of steps that came in. -/
import Derived.Test.YtgnhmgnpmbmjcaaR
import Derived.Deep.Slices
namespace Go.Proofs.Ytgnhmgnpmbmjcaa
set_option linter.unusedVariables false
set_option linter.unusedSimpArgs false
open Go.ChangeShapes Go.WideShapes Go.ChangeAt Go.RowKit

/-- n steps that came in, at A: what to do, and the two places. -/
def StpsIn (w : World) (A : Option Addr) (n : Nat) : Prop :=
  ∀ i, i < n → ∃ (b off : Nat) (op : Int) (x y : Nat), A = some ⟨b, off, none⟩ ∧ w.cell? ⟨b, off + i * 5, none⟩ = some (.int .i64 op) ∧ w.cell? ⟨b, off + i * 5 + 3, none⟩ = some (.int .u64 x) ∧ w.cell? ⟨b, off + i * 5 + 4, none⟩ = some (.int .u64 y) ∧
    -9223372036854775808 ≤ op ∧ op ≤ 9223372036854775807

theorem StpsIn.keep {w w' : World} {A : Option Addr} {n : Nat} (h : StpsIn w A n) (hc : Ch S0 w w') : StpsIn w' A n := fun i hi => by
  obtain ⟨b, off, op, x, y, e, h1, h2, h3, h4⟩ := h i hi
  have hk := World.block_lt_of_cell? w _ h1
  have ee : ∀ j, w'.cell? ⟨b, j, none⟩ = w.cell? ⟨b, j, none⟩ := fun j => World.cell?_of_block (hc.block b hk (fun h => h))
  exact ⟨b, off, op, x, y, e, by rw [ee]; exact h1, by rw [ee]; exact h2, by rw [ee]; exact h3, h4⟩

section
variable {H : Type} {enc : TypeId × Value → H}

theorem open_steps {W : World} {base : Nat} {v : Value} {d : DataW H} {p : List MemPlace} (hv : Value.okWide Try.prog W .any base 46 v) (h : DataW.Trod enc Try.prog W 0 (fun _ => true) true 46 v d p) :
    ∃ (A : Option Addr) (n cap : Nat), v = .slice A n cap ∧ n ≤ 9223372036854775807 ∧ StpsIn W A n := by
  obtain ⟨A, n, cap, rfl⟩ := okWide_slice Try.underlying46 hv
  obtain ⟨fuel, hf⟩ := h
  rcases Deep.open_slice Try.underlying46 hf with ⟨e, _⟩ | ⟨a, len, cap', m, k, D, Pl, e, hb, hl, hm, hmm, _, hx⟩
  · simp [Value.cells] at e
    obtain ⟨rfl, rfl, rfl⟩ := e
    exact ⟨none, 0, 0, rfl, by omega, fun i hi => by omega⟩
  · simp [Value.cells] at e
    obtain ⟨rfl, rfl, rfl⟩ := e
    have hm' : cap ≤ 9223372036854775807 := hm
    simp only [if_true] at hmm
    subst hmm
    refine ⟨_, _, _, rfl, by omega, fun i hi => ?_⟩
    have c48 : Try.prog.cellsOf 48 = 5 := by kernel_rfl
    have hsp : a.spot = none := by
      obtain ⟨cs, h1, h2⟩ := hx 0 (by omega)
      obtain ⟨_, hlen, hcell⟩ := World.cells?_some h1
      have e0 := hcell 0 (by rw [c48]; omega)
      rw [c48] at hlen
      match cs, hlen with
      | [v0, v1, v2, v3, v4], _ =>
        have := World.cell?_spot e0
        simpa [Addr.add] using this
    obtain ⟨cs, h1, h2⟩ := hx i (by omega)
    obtain ⟨_, hlen, hcell⟩ := World.cells?_some h1
    obtain ⟨xs, k', hk, hxy, _, hxl, hfl⟩ := DataW.trod_struct Try.underlying48 h2
    rw [c48] at hlen hcell
    have c3 : Try.prog.cellsOf 3 = 1 := by kernel_rfl
    have c22 : Try.prog.cellsOf 22 = 1 := by kernel_rfl
    have e0 := hcell 0 (by omega)
    have e3 := hcell 3 (by omega)
    have e4 := hcell 4 (by omega)
    match xs, hxl, cs, hlen with
    | [y0, y1, y2, y3, y4], _, [v0, v1, v2, v3, v4], _ =>
      have g0 := hfl 0 _ rfl
      have g3 := hfl 3 _ rfl
      have g4 := hfl 4 _ rfl
      simp [c3, c22] at g0 g3 g4
      obtain ⟨z0, q0, _, w0⟩ := DataW.trod_int Try.underlying3 g0
      obtain ⟨z3, q3, _, w3⟩ := DataW.trod_int Try.underlying22 g3
      obtain ⟨z4, q4, _, w4⟩ := DataW.trod_int Try.underlying22 g4
      simp only [List.cons.injEq, and_true] at q0 q3 q4
      subst q0 q3 q4
      obtain ⟨x, rfl, _⟩ := nat_of_wf w3
      obtain ⟨y, rfl, _⟩ := nat_of_wf w4
      have ea : ∀ j, (a.add (i * 5)).add j = ⟨a.block, a.off + i * 5 + j, none⟩ := fun j => by
        obtain ⟨b1, o1, s1⟩ := a
        simp only at hsp
        subst hsp
        have h9 : ∀ (a : Addr) (x : Nat), a.spot = none → a.add x = ⟨a.block, a.off + x, none⟩ := fun a x h => by
          obtain ⟨b, o, s⟩ := a
          simp only at h
          subst h
          unfold Addr.add
          by_cases hx : x = 0
          · simp [hx]
          · simp [hx]
        rw [h9 ⟨b1, o1, none⟩ (i * 5) rfl, h9 _ j rfl]
      rw [ea] at e0 e3 e4
      simp only [Lit.wf, Bool.and_eq_true, decide_eq_true_eq] at w0
      have h1 : IntKind.i64.min = -9223372036854775808 := by rfl
      have h2 : IntKind.i64.max = 9223372036854775807 := by rfl
      rw [h1, h2] at w0
      exact ⟨a.block, a.off, z0, x, y, by cases a; simp_all, by simpa using e0, by simpa using e3, by simpa using e4, by omega, by omega⟩
end
end Go.Proofs.Ytgnhmgnpmbmjcaa
