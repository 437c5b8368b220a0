/- ROWS: edges that came in; the errors' variables as laid. -/
import Derived.Test.YtjifdcklmpibpaaDoorR0
import Derived.Test.YtjifdcklmpibpaaDoorL
import Derived.Stop.LaidTwo
namespace Go.Proofs.YtjifdcklmpibpaaDoor
set_option linter.unusedVariables false
set_option linter.unusedSimpArgs false
open Go.ChangeShapes Go.WideShapes Go.ChangeAt Go.RowKit

theorem ev_get (xs : List (Int × Int)) : ∀ (j : Nat) (u : Value), (ev xs)[j]? = some u → ∃ i x, xs[i]? = some x ∧ ((j = i * 2 ∧ u = .int .i64 x.1) ∨ (j = i * 2 + 1 ∧ u = .int .i64 x.2)) := by
  induction xs with
  | nil => intro j u h; simp [ev] at h
  | cons y ys ih =>
    intro j u h
    have e : ev (y :: ys) = [.int .i64 y.1, .int .i64 y.2] ++ ev ys := rfl
    rw [e] at h
    match j, h with
    | 0, h => exact ⟨0, y, rfl, Or.inl ⟨rfl, by simpa using h.symm⟩⟩
    | 1, h => exact ⟨0, y, rfl, Or.inr ⟨rfl, by simpa using h.symm⟩⟩
    | j + 2, h =>
      obtain ⟨i, x, h1, h2⟩ := ih j u (by simpa using h)
      refine ⟨i + 1, x, by simpa using h1, ?_⟩
      rcases h2 with ⟨h2, h3⟩ | ⟨h2, h3⟩
      · exact Or.inl ⟨by omega, h3⟩
      · exact Or.inr ⟨by omega, h3⟩

section
variable {H : Type} {enc : TypeId × Value → H}
set_option maxRecDepth 100000 in
theorem open_edges {W : World} {base : Nat} {v : Value} {d : DataW H} {p : List MemPlace} (hv : Value.okWide Tryd.prog W .any base 22 v) (h : DataW.Trod enc Tryd.prog W 0 (fun _ => true) true 22 v d p) :
    ∃ (A : Option Addr) (n cap : Nat) (xs : List (Int × Int)), v = .slice A n cap ∧ n ≤ 9223372036854775807 ∧ xs.length = n ∧ Rd W A (ev xs) := by
  obtain ⟨A, n, cap, rfl⟩ := okWide_slice Tryd.underlying22 hv
  obtain ⟨fuel, hf⟩ := h
  rcases Deep.open_slice Tryd.underlying22 hf with ⟨e, _⟩ | ⟨a, len, cap', m, k, D, Pl, e, hb, hl, hm, hmm, _, hx⟩
  · simp [Value.cells] at e
    obtain ⟨rfl, rfl, rfl⟩ := e
    exact ⟨none, 0, 0, [], rfl, by omega, rfl, Rd.nil _ _⟩
  · simp [Value.cells] at e
    obtain ⟨rfl, rfl, rfl⟩ := e
    have hm' : cap ≤ 9223372036854775807 := hm
    simp only [if_true] at hmm
    subst hmm
    have c24 : Tryd.prog.cellsOf 24 = 2 := by kernel_rfl
    have c3 : Tryd.prog.cellsOf 3 = 1 := by kernel_rfl
    have hat : ∀ i, i < n → ∃ x : Int × Int, W.cell? ((a.add (i * 2)).add 0) = some (.int .i64 x.1) ∧ W.cell? ((a.add (i * 2)).add 1) = some (.int .i64 x.2) := fun i hi => by
      obtain ⟨cs, h1, h2⟩ := hx i (by omega)
      obtain ⟨_, hlen, hcell⟩ := World.cells?_some h1
      obtain ⟨xs, k', hk, hxy, _, hxl, hfl⟩ := DataW.trod_struct Tryd.underlying24 h2
      rw [c24] at hlen hcell
      have e0 := hcell 0 (by omega)
      have e1 := hcell 1 (by omega)
      match xs, hxl, cs, hlen with
      | [y0, y1], _, [v0, v1], _ =>
        have g0 := hfl 0 _ rfl
        have g1 := hfl 1 _ rfl
        simp [c3] at g0 g1
        obtain ⟨z0, q0, _, w0⟩ := DataW.trod_int Tryd.underlying3 g0
        obtain ⟨z1, q1, _, w1⟩ := DataW.trod_int Tryd.underlying3 g1
        simp only [List.cons.injEq, and_true] at q0 q1
        subst q0 q1
        exact ⟨(z0, z1), by simpa using e0, by simpa using e1⟩
    have hadd : ∀ (a : Addr) (x : Nat), a.spot = none → a.add x = ⟨a.block, a.off + x, none⟩ := fun a x h => by
      obtain ⟨b, o, s⟩ := a
      simp only at h
      subst h
      unfold Addr.add
      by_cases hx : x = 0
      · simp [hx]
      · simp [hx]
    by_cases h0 : n = 0
    · subst h0
      exact ⟨_, 0, _, [], rfl, by omega, rfl, Rd.nil _ _⟩
    · have hsp : a.spot = none := by
        obtain ⟨x, h1, _⟩ := hat 0 (by omega)
        have := World.cell?_spot h1
        simpa [Addr.add] using this
      obtain ⟨b1, o1, s1⟩ := a
      simp only at hsp
      subst hsp
      have hc : ∀ i, ∃ x : Int × Int, i < n → W.cell? ⟨b1, o1 + i * 2, none⟩ = some (.int .i64 x.1) ∧ W.cell? ⟨b1, o1 + i * 2 + 1, none⟩ = some (.int .i64 x.2) := fun i => by
        by_cases h : i < n
        · obtain ⟨x, h1, h2⟩ := hat i h
          refine ⟨x, fun _ => ?_⟩
          rw [hadd ⟨b1, o1, none⟩ (i * 2) rfl, hadd _ _ rfl] at h1 h2
          exact ⟨by simpa using h1, by simpa using h2⟩
        · exact ⟨(0, 0), fun h' => absurd h' h⟩
      obtain ⟨f, hc⟩ : ∃ f : Nat → Int × Int, ∀ i, i < n → W.cell? ⟨b1, o1 + i * 2, none⟩ = some (.int .i64 (f i).1) ∧ W.cell? ⟨b1, o1 + i * 2 + 1, none⟩ = some (.int .i64 (f i).2) := ⟨fun i => (hc i).choose, fun i => (hc i).choose_spec⟩
      refine ⟨_, n, _, (List.range n).map f, rfl, by omega, by simp, fun j u hj => ?_⟩
      obtain ⟨i, x, h1, h2⟩ := ev_get _ j u hj
      have hin : i < n := by
        have := (List.getElem?_eq_some_iff.1 h1).1
        simpa using this
      simp [hin] at h1
      have hs := hc i hin
      rw [h1] at hs
      refine ⟨b1, o1, rfl, ?_⟩
      rcases h2 with ⟨rfl, rfl⟩ | ⟨rfl, rfl⟩
      · exact hs.1
      · rw [← Nat.add_assoc]; exact hs.2

theorem vars_read3 (enc : TypeId × Value → H) {P : Program} {W : World} {n0 n1 n2 : String} {g0 g1 g2 : Nat} {t0 t1 t2 : TypeId} {ms0 ms1 ms2 : Array (String × TypeId)} {x0 x1 x2 : Value}
    (hg0 : P.globalNamed n0 = some g0) (ht0 : (P.globals[g0]?).map (·.type) = some t0) (hi0 : P.underlying t0 = some (.interface ms0)) (h0 : W.var? P n0 = some #[x0]) (i0 : IsIface x0)
    (hg1 : P.globalNamed n1 = some g1) (ht1 : (P.globals[g1]?).map (·.type) = some t1) (hi1 : P.underlying t1 = some (.interface ms1)) (h1 : W.var? P n1 = some #[x1]) (i1 : IsIface x1)
    (hg2 : P.globalNamed n2 = some g2) (ht2 : (P.globals[g2]?).map (·.type) = some t2) (hi2 : P.underlying t2 = some (.interface ms2)) (h2 : W.var? P n2 = some #[x2]) (i2 : IsIface x2) (sp : Nat → Bool) :
    DataW.TrodVars enc P W sp [n0, n1, n2] [tok enc x0, tok enc x1, tok enc x2] [.cell g0 0, .cell g1 0, .cell g2 0] :=
  ⟨g0, t0, #[x0], 1, [], [.cell g1 0, .cell g2 0], hg0, ht0, h0, trod_held hi0 i0 0, vars_read2 enc hg1 ht1 hi1 h1 i1 hg2 ht2 hi2 h2 i2 sp, rfl⟩
end

abbrev nE1 : String := "given.example/pub-spokeshave/pub/godatastructures/graph.ErrVertexNotFound"
abbrev nE2 : String := "given.example/pub-spokeshave/pub/godatastructures/graph.ErrSelfLoop"
abbrev nE3 : String := "given.example/pub-spokeshave/pub/godatastructures/graph.ErrParallelEdge"
theorem Tryd.gE1 : Tryd.prog.globalNamed nE1 = some 0 := by kernel_rfl
theorem Tryd.gE2 : Tryd.prog.globalNamed nE2 = some 1 := by kernel_rfl
theorem Tryd.gE3 : Tryd.prog.globalNamed nE3 = some 2 := by kernel_rfl
theorem Tryd.gT1 : (Tryd.prog.globals[0]?).map (·.type) = some 53 := by kernel_rfl
theorem Tryd.gT2 : (Tryd.prog.globals[1]?).map (·.type) = some 53 := by kernel_rfl
theorem Tryd.gT3 : (Tryd.prog.globals[2]?).map (·.type) = some 53 := by kernel_rfl
theorem Tryd.cells124 : Tryd.prog.cellsOf 124 = 1 := by kernel_rfl
theorem Tryd.cells9 : Tryd.prog.cellsOf 9 = 1 := by kernel_rfl
theorem Tryd.star : "*" ++ "errors.errorString" = "*errors.errorString" := by decide
theorem Tryd.row108 (u : TypeId) (h : Tryd.prog.typeName? 3 u = some "*errors.errorString") : u = 108 :=
  typeName_ptr_named (nm := "errors.errorString") (by rw [Tryd.star]; kernel_rfl) (by kernel_rfl) (by decide) u (by rw [Tryd.star]; exact h)

/-- What the errors' variables hold when the call begins. -/
theorem er_of_laid {W : World} (h : laidMet Tryd.prog Rows.fnGRMoreRow.laid W) : ∃ e1 e2 e3, Er W W.heap.size e1 e2 e3 ∧ W.var? Tryd.prog nE1 = some #[.iface 108 (.pointer (some e1))] ∧ W.var? Tryd.prog nE2 = some #[.iface 108 (.pointer (some e2))] ∧ W.var? Tryd.prog nE3 = some #[.iface 108 (.pointer (some e3))] := by
  have h12 := laid_sentinels2 h Tryd.gE1 Tryd.gT1 Tryd.gE2 Tryd.gT2 Tryd.underlying53 Tryd.row108 Tryd.underlying108 Tryd.underlying124 rfl rfl Tryd.underlying9 Tryd.cells124 Tryd.cells9
  have h23 := laid_sentinels2 h.tail Tryd.gE2 Tryd.gT2 Tryd.gE3 Tryd.gT3 Tryd.underlying53 Tryd.row108 Tryd.underlying108 Tryd.underlying124 rfl rfl Tryd.underlying9 Tryd.cells124 Tryd.cells9
  obtain ⟨a0, a1, s0, s1, c0, c1, t0, t1, v0, v1, k0, x0, _, k1, x1, _, hne, hb0, hb1⟩ := h12
  obtain ⟨b1, b2, r1, r2, d1, d2, u1, u2, w1, w2, m1, y1, _, m2, y2, _, hne2, hc1, hc2⟩ := h23
  obtain rfl : a1 = b1 := by
    have := v1.symm.trans w1
    simpa using this
  have hne3 : a0 ≠ b2 := fun e => by
    subst e
    rw [m2] at k0
    have e : r2 = s0 := by simpa using k0
    rw [e, x0] at y2
    revert y2
    decide
  have l0 := World.block_lt_of_cell? W _ k0
  have l1 := World.block_lt_of_cell? W _ k1
  have l2 := World.block_lt_of_cell? W _ m2
  have g1 : W.cell? ⟨0, 0, none⟩ = some (.iface 108 (.pointer (some a0))) := by simpa using World.var?_cell Tryd.gE1 v0 0
  have g2 : W.cell? ⟨1, 0, none⟩ = some (.iface 108 (.pointer (some a1))) := by simpa using World.var?_cell Tryd.gE2 v1 0
  have g3 : W.cell? ⟨2, 0, none⟩ = some (.iface 108 (.pointer (some b2))) := by simpa using World.var?_cell Tryd.gE3 w2 0
  have l3 := World.block_lt_of_cell? W _ g3
  exact ⟨a0, a1, b2, ⟨by have : 2 < W.heap.size := l3; omega, g1, g2, g3, hne, hne3, hne2, ⟨_, _, hb0⟩, ⟨_, _, hb1⟩, ⟨_, _, hc2⟩, l0, l1, l2, Nat.le_refl _⟩, v0, v1, w2⟩

theorem var?_below {W W' : World} {n : String} {cs : Array Value} (h : W.var? Tryd.prog n = some cs) (hb : Below W.heap.size W W') : W'.var? Tryd.prog n = some cs := by
  unfold World.var? at h ⊢
  cases hg : Tryd.prog.globalNamed n with
  | none => simp [hg] at h
  | some g =>
    simp only [hg, Option.bind_some] at h ⊢
    have hlt : g < W.heap.size := by
      rcases Nat.lt_or_ge g W.heap.size with h' | h'
      · exact h'
      · simp [Array.getElem?_eq_none h'] at h
    rw [hb.block g hlt]
    exact h

/-- One start that fits. -/
abbrev textS1 : ByteArray := { data := #[118, 101, 114, 116, 101, 120, 32, 110, 111, 116, 32, 102, 111, 117, 110, 100] }
abbrev textS2 : ByteArray := { data := #[115, 101, 108, 102, 32, 108, 111, 111, 112, 115, 32, 110, 111, 116, 32, 112, 101, 114, 109, 105, 116, 116, 101, 100] }
abbrev textS3 : ByteArray := { data := #[112, 97, 114, 97, 108, 108, 101, 108, 32, 101, 100, 103, 101, 115, 32, 97, 114, 101, 32, 110, 111, 116, 32, 112, 101, 114, 109, 105, 116, 116, 101, 100] }
noncomputable def low : Nat := (World.holding Tryd.prog default ⟨#[], #[], []⟩).heap.size
noncomputable def laidWorld (os : Os) : World :=
  let w0 := World.holding Tryd.prog os ⟨#[.cells #[.string textS1] 124, .cells #[.string textS2] 124, .cells #[.string textS3] 124], #[], []⟩
  { w0 with heap := ((w0.heap.modify 0 fun
      | .cells _ t frozen => .cells #[.iface 108 (.pointer (some ⟨low, 0, none⟩))] t frozen
      | o => o).modify 1 fun
      | .cells _ t frozen => .cells #[.iface 108 (.pointer (some ⟨low + 1, 0, none⟩))] t frozen
      | o => o).modify 2 fun
      | .cells _ t frozen => .cells #[.iface 108 (.pointer (some ⟨low + 2, 0, none⟩))] t frozen
      | o => o }
theorem laid_met (os : Os) (args : Array Value) : laidMet Tryd.prog Rows.fnGRMoreRow.laid ((laidWorld os).forCall (fun _ _ => 0) ⟨#[], args, []⟩).memory :=
  laidMet_of_run (ps := [.cell 0 0, .cell low 0, .cell 1 0, .cell (low + 1) 0, .cell 2 0, .cell (low + 2) 0]) 8 (by kernel_rfl) (by kernel_rfl) (by kernel_rfl)
end Go.Proofs.YtjifdcklmpibpaaDoor
