/- ROWS: []int16 that came in. -/
import Derived.Test.YtlppnbmaedgodaaR0
import Derived.Test.YtlppnbmaedgodaaQ1
namespace Go.Proofs.Ytlppnbmaedgodaa
set_option linter.unusedVariables false
set_option linter.unusedSimpArgs false
open Go.ChangeShapes Go.WideShapes Go.ChangeAt Go.RowKit

section
variable {H : Type} {enc : TypeId × Value → H}
set_option maxRecDepth 100000 in
theorem open_i16s {W : World} {base : Nat} {v : Value} {d : DataW H} {p : List MemPlace} (hv : Value.okWide Try.prog W .any base 22 v) (h : DataW.Trod enc Try.prog W 0 (fun _ => true) true 22 v d p) :
    ∃ (A : Option Addr) (n cap : Nat) (xs : List Int), v = .slice A n cap ∧ n ≤ 9223372036854775807 ∧ xs.length = n ∧ Rd W A (sv xs) ∧ is16 xs := by
  obtain ⟨A, n, cap, rfl⟩ := okWide_slice Try.underlying22 hv
  obtain ⟨fuel, hf⟩ := h
  rcases Deep.open_slice Try.underlying22 hf with ⟨e, _⟩ | ⟨a, len, cap', m, k, D, Pl, e, hb, hl, hm, hmm, _, hx⟩
  · simp [Value.cells] at e
    obtain ⟨rfl, rfl, rfl⟩ := e
    exact ⟨none, 0, 0, [], rfl, by omega, rfl, Rd.nil _ _, fun x h => by cases h⟩
  · simp [Value.cells] at e
    obtain ⟨rfl, rfl, rfl⟩ := e
    have hm' : cap ≤ 9223372036854775807 := hm
    simp only [if_true] at hmm
    subst hmm
    have c1 : Try.prog.cellsOf 44 = 1 := by kernel_rfl
    have hat : ∀ i, i < n → ∃ x : Int, W.cell? ((a.add i).add 0) = some (.int .i16 x) ∧ -32768 ≤ x ∧ x ≤ 32767 := fun i hi => by
      obtain ⟨cs, h1, h2⟩ := hx i (by omega)
      obtain ⟨_, hlen, hcell⟩ := World.cells?_some h1
      rw [c1] at hlen hcell
      have e0 := hcell 0 (by omega)
      obtain ⟨z, q, _, w0⟩ := DataW.trod_int Try.underlying44 h2
      subst q
      exact ⟨z, by simpa using e0, wf_i16 w0⟩
    have hadd : ∀ (a : Addr) (x : Nat), a.spot = none → a.add x = ⟨a.block, a.off + x, none⟩ := fun a x h => by
      obtain ⟨b, o, s⟩ := a
      simp only at h
      subst h
      unfold Addr.add
      by_cases hx : x = 0
      · simp [hx]
      · simp [hx]
    by_cases h0 : n = 0
    · subst h0
      exact ⟨_, 0, _, [], rfl, by omega, rfl, Rd.nil _ _, fun x h => by cases h⟩
    · have hsp : a.spot = none := by
        obtain ⟨x, h1, _⟩ := hat 0 (by omega)
        have := World.cell?_spot h1
        simpa [Addr.add] using this
      obtain ⟨b1, o1, s1⟩ := a
      simp only at hsp
      subst hsp
      have hc : ∀ i, ∃ x : Int, i < n → W.cell? ⟨b1, o1 + i, none⟩ = some (.int .i16 x) ∧ -32768 ≤ x ∧ x ≤ 32767 := fun i => by
        by_cases h : i < n
        · obtain ⟨x, h1, h2⟩ := hat i h
          refine ⟨x, fun _ => ⟨?_, h2⟩⟩
          rw [hadd ⟨b1, o1, none⟩ i rfl, hadd _ _ rfl] at h1
          simpa using h1
        · exact ⟨0, fun h' => absurd h' h⟩
      obtain ⟨f, hc⟩ : ∃ f : Nat → Int, ∀ i, i < n → W.cell? ⟨b1, o1 + i, none⟩ = some (.int .i16 (f i)) ∧ -32768 ≤ f i ∧ f i ≤ 32767 := ⟨fun i => (hc i).choose, fun i => (hc i).choose_spec⟩
      refine ⟨_, n, _, (List.range n).map f, rfl, by omega, by simp, fun j u hj => ?_, fun x hx => ?_⟩
      · have hjn : j < n := by
          have := (List.getElem?_eq_some_iff.1 hj).1
          simpa using this
        simp [sv, hjn] at hj
        refine ⟨b1, o1, rfl, ?_⟩
        rw [← hj]
        exact (hc j hjn).1
      · simp only [List.mem_map, List.mem_range] at hx
        obtain ⟨i, hi, rfl⟩ := hx
        exact (hc i hi).2
end
end Go.Proofs.Ytlppnbmaedgodaa
