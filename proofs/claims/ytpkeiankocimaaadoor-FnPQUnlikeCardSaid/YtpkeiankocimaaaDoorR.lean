/- ROWS: the errors' variables as laid. (Printed by mkR.py.) -/
import Derived.Test.YtpkeiankocimaaaDoorR1
import Derived.Stop.LaidTwo
namespace Go.Proofs.YtpkeiankocimaaaDoor
set_option linter.unusedVariables false
set_option linter.unusedSimpArgs false
open Go.ChangeShapes Go.WideShapes Go.ChangeAt Go.RowKit

section
variable {H : Type} {enc : TypeId × Value → H}
theorem vars_read3 (enc : TypeId × Value → H) {P : Program} {W : World} {n0 n1 n2 : String} {g0 g1 g2 : Nat} {t0 t1 t2 : TypeId} {ms0 ms1 ms2 : Array (String × TypeId)} {x0 x1 x2 : Value}
    (hg0 : P.globalNamed n0 = some g0) (ht0 : (P.globals[g0]?).map (·.type) = some t0) (hi0 : P.underlying t0 = some (.interface ms0)) (h0 : W.var? P n0 = some #[x0]) (i0 : IsIface x0)
    (hg1 : P.globalNamed n1 = some g1) (ht1 : (P.globals[g1]?).map (·.type) = some t1) (hi1 : P.underlying t1 = some (.interface ms1)) (h1 : W.var? P n1 = some #[x1]) (i1 : IsIface x1)
    (hg2 : P.globalNamed n2 = some g2) (ht2 : (P.globals[g2]?).map (·.type) = some t2) (hi2 : P.underlying t2 = some (.interface ms2)) (h2 : W.var? P n2 = some #[x2]) (i2 : IsIface x2) (sp : Nat → Bool) :
    DataW.TrodVars enc P W sp [n0, n1, n2] [tok enc x0, tok enc x1, tok enc x2] [.cell g0 0, .cell g1 0, .cell g2 0] :=
  ⟨g0, t0, #[x0], 1, [], [.cell g1 0, .cell g2 0], hg0, ht0, h0, trod_held hi0 i0 0, vars_read2 enc hg1 ht1 hi1 h1 i1 hg2 ht2 hi2 h2 i2 sp, rfl⟩
end
abbrev nE1 : String := "given.example/pub-spokeshave/pub/godatastructures/queue.ErrDisposed"
theorem Tryd.gE1 : Tryd.prog.globalNamed nE1 = some 0 := by kernel_rfl
theorem Tryd.gT1 : (Tryd.prog.globals[0]?).map (·.type) = some 57 := by kernel_rfl
abbrev textS1 : ByteArray := { data := #[113, 117, 101, 117, 101, 58, 32, 100, 105, 115, 112, 111, 115, 101, 100] }
abbrev nE2 : String := "given.example/pub-spokeshave/pub/godatastructures/queue.ErrTimeout"
theorem Tryd.gE2 : Tryd.prog.globalNamed nE2 = some 1 := by kernel_rfl
theorem Tryd.gT2 : (Tryd.prog.globals[1]?).map (·.type) = some 57 := by kernel_rfl
abbrev textS2 : ByteArray := { data := #[113, 117, 101, 117, 101, 58, 32, 112, 111, 108, 108, 32, 116, 105, 109, 101, 100, 32, 111, 117, 116] }
abbrev nE3 : String := "given.example/pub-spokeshave/pub/godatastructures/queue.ErrEmptyQueue"
theorem Tryd.gE3 : Tryd.prog.globalNamed nE3 = some 2 := by kernel_rfl
theorem Tryd.gT3 : (Tryd.prog.globals[2]?).map (·.type) = some 57 := by kernel_rfl
abbrev textS3 : ByteArray := { data := #[113, 117, 101, 117, 101, 58, 32, 101, 109, 112, 116, 121, 32, 113, 117, 101, 117, 101] }
theorem Tryd.cellsEs : Tryd.prog.cellsOf 93 = 1 := by kernel_rfl
theorem Tryd.cellsStr : Tryd.prog.cellsOf 9 = 1 := by kernel_rfl
theorem Tryd.star : "*" ++ "errors.errorString" = "*errors.errorString" := by decide
theorem Tryd.rowPes (u : TypeId) (h : Tryd.prog.typeName? 3 u = some "*errors.errorString") : u = 75 :=
  typeName_ptr_named (nm := "errors.errorString") (by rw [Tryd.star]; kernel_rfl) (by kernel_rfl) (by decide) u (by rw [Tryd.star]; exact h)
/-- What the errors' variables hold when the call begins. -/
theorem er_of_laid {W : World} (h : laidMet Tryd.prog Rows.fnPQLookRow.laid W) : ∃ e1 e2 e3, W.var? Tryd.prog nE1 = some #[.iface 75 (.pointer (some e1))] ∧ W.var? Tryd.prog nE2 = some #[.iface 75 (.pointer (some e2))] ∧ W.var? Tryd.prog nE3 = some #[.iface 75 (.pointer (some e3))] := by
  have h12 := laid_sentinels2 h Tryd.gE1 Tryd.gT1 Tryd.gE2 Tryd.gT2 Tryd.underlying57 Tryd.rowPes Tryd.underlying75 Tryd.underlying93 rfl rfl Tryd.underlying9 Tryd.cellsEs Tryd.cellsStr
  have h23 := laid_sentinels2 h.tail Tryd.gE2 Tryd.gT2 Tryd.gE3 Tryd.gT3 Tryd.underlying57 Tryd.rowPes Tryd.underlying75 Tryd.underlying93 rfl rfl Tryd.underlying9 Tryd.cellsEs Tryd.cellsStr
  obtain ⟨a0, a1, s0, s1, c0, c1, t0, t1, v0, v1, _⟩ := h12
  obtain ⟨b1, b2, r1, r2, d1, d2, u1, u2, w1, w2, _⟩ := h23
  exact ⟨a0, a1, b2, v0, v1, w2⟩
theorem var?_below {W W' : World} {n : String} {cs : Array Value} (h : W.var? Tryd.prog n = some cs) (hb : Below W.heap.size W W') : W'.var? Tryd.prog n = some cs := by
  unfold World.var? at h ⊢
  cases hg : Tryd.prog.globalNamed n with
  | none => simp [hg] at h
  | some g =>
    simp only [hg, Option.bind_some] at h ⊢
    have hlt : g < W.heap.size := by
      rcases Nat.lt_or_ge g W.heap.size with h' | h'
      · exact h'
      · simp [Array.getElem?_eq_none h'] at h
    rw [hb.block g hlt]
    exact h

/-- One start that fits. -/
noncomputable def low : Nat := (World.holding Tryd.prog default ⟨#[], #[], []⟩).heap.size
noncomputable def laidWorld (os : Os) : World :=
  let w0 := World.holding Tryd.prog os ⟨#[.cells #[.string textS1] 93, .cells #[.string textS2] 93, .cells #[.string textS3] 93], #[], []⟩
  { w0 with heap := ((w0.heap.modify 0 fun
      | .cells _ t frozen => .cells #[.iface 75 (.pointer (some ⟨low, 0, none⟩))] t frozen
      | o => o).modify 1 fun
      | .cells _ t frozen => .cells #[.iface 75 (.pointer (some ⟨low + 1, 0, none⟩))] t frozen
      | o => o).modify 2 fun
      | .cells _ t frozen => .cells #[.iface 75 (.pointer (some ⟨low + 2, 0, none⟩))] t frozen
      | o => o }
theorem laid_met (os : Os) (args : Array Value) : laidMet Tryd.prog Rows.fnPQLookRow.laid ((laidWorld os).forCall (fun _ _ => 0) ⟨#[], args, []⟩).memory :=
  laidMet_of_run (ps := [.cell 0 0, .cell low 0, .cell 1 0, .cell (low + 1) 0, .cell 2 0, .cell (low + 2) 0]) 8 (by kernel_rfl) (by kernel_rfl) (by kernel_rfl)
end Go.Proofs.YtpkeiankocimaaaDoor
