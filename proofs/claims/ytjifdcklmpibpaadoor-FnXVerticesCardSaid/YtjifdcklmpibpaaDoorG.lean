/- WALKS: grError, V, E, Degree, grOf. -/
import Derived.Test.YtjifdcklmpibpaaDoorF
namespace Go.Proofs.YtjifdcklmpibpaaDoor
open Go.RowKit
set_option linter.unusedVariables false
set_option linter.unusedSimpArgs false

theorem Er.base {w : World} {B B' : Nat} {e1 e2 e3 : Addr} (h : Er w B e1 e2 e3) (h1 : B ≤ B') (h2 : B' ≤ w.heap.size) : Er w B' e1 e2 e3 :=
  { h with b3 := Nat.le_trans h.b3 h1, l1 := Nat.lt_of_lt_of_le h.l1 h1, l2 := Nat.lt_of_lt_of_le h.l2 h1, l3 := Nat.lt_of_lt_of_le h.l3 h1, sz := h2 }
theorem Er.keep0 {w w' : World} {B : Nat} {e1 e2 e3 : Addr} (h : Er w B e1 e2 e3) (hc : Ch S0 w w') : Er w' B e1 e2 e3 := h.keep hc (fun _ _ h => h)
theorem Er.top {w : World} {B : Nat} {e1 e2 e3 : Addr} (h : Er w B e1 e2 e3) : Er w w.heap.size e1 e2 e3 := h.base h.sz (Nat.le_refl _)

theorem Tryd.info124 : (Tryd.prog.info? 124).map (·.size) = some 1 := by kernel_rfl
theorem Tryd.info108 : (Tryd.prog.info? 108).map (·.comparable) = some true := by kernel_rfl
theorem eq_same (a : Addr) (w : World) : (binOp .eql 53 (.iface 108 (.pointer (some a))) (.iface 108 (.pointer (some a)))).run Tryd.prog w = .ok (.bool true) w := by
  obtain ⟨i, h1, h2⟩ := Option.map_eq_some_iff.1 Tryd.info108
  obtain ⟨j, h3, h4⟩ := Option.map_eq_some_iff.1 Tryd.info124
  exact run_eql_iface_ptr_same w a Tryd.underlying53 Tryd.underlying108 h1 h2 h3
theorem eq_other {a b : Addr} {w : World} (hne : a ≠ b) (ha : ∃ c t, w.heap[a.block]? = some (.cells c t (0, 0))) (hb : ∃ c t, w.heap[b.block]? = some (.cells c t (0, 0))) :
    (binOp .eql 53 (.iface 108 (.pointer (some a))) (.iface 108 (.pointer (some b)))).run Tryd.prog w = .ok (.bool false) w := by
  obtain ⟨i, h1, h2⟩ := Option.map_eq_some_iff.1 Tryd.info108
  obtain ⟨j, h3, h4⟩ := Option.map_eq_some_iff.1 Tryd.info124
  obtain ⟨_, _, ha⟩ := ha
  obtain ⟨_, _, hb⟩ := hb
  exact run_eql_iface_ptr_other w Tryd.underlying53 Tryd.underlying108 h1 h2 h3 (by rw [h4]; decide) hne ha hb
theorem eq_nil (p : Value) (w : World) : (binOp .eql 53 (.iface 108 p) .nilIface).run Tryd.prog w = .ok (.bool false) w := by
  have h : ∀ d : Nat, (Op.equalIn (d + 1) 53 (.iface 108 p) .nilIface).run Tryd.prog w = .ok false w := fun d => by simp [Op.equalIn, run_underlying Tryd.underlying53]
  simp only [binOp]
  simp [Op.equal, Op.maxDepth, h 9999]
theorem eq_nn (w : World) : (binOp .eql 53 .nilIface .nilIface).run Tryd.prog w = .ok (.bool true) w := by
  have h : ∀ d : Nat, (Op.equalIn (d + 1) 53 .nilIface .nilIface).run Tryd.prog w = .ok true w := fun d => by simp [Op.equalIn, run_underlying Tryd.underlying53]
  simp only [binOp]
  simp [Op.equal, Op.maxDepth, h 9999]

set_option maxRecDepth 100000 in
theorem err_any (B : Nat) (e1 e2 e3 : Addr) (c : Nat) (hc : c < 4) (w : World) (hE : Er w B e1 e2 e3) :
    Calls Tryd.prog 20 #[errV e1 e2 e3 c] w fun r w' => r = .returned (.int .i64 c) ∧ w' = w := by
  have v1 := hE.v1
  have v2 := hE.v2
  have v3 := hE.v3
  have s1 := eq_same e1 w
  have s2 := eq_same e2 w
  have s3 := eq_same e3 w
  have n21 := eq_other (w := w) (Ne.symm hE.n12) hE.f2 hE.f1
  have n31 := eq_other (w := w) (Ne.symm hE.n13) hE.f3 hE.f1
  have n32 := eq_other (w := w) (Ne.symm hE.n23) hE.f3 hE.f2
  have m1 := eq_nil (.pointer (some e1)) w
  have m2 := eq_nil (.pointer (some e2)) w
  have m3 := eq_nil (.pointer (some e3)) w
  have m0 := eq_nn w
  clear hE
  match c, hc with
  | 0, _ =>
    show Calls Tryd.prog 20 #[.nilIface] w _
    go_enter Tryd.func20, Tryd.ntmps20
    go_wp2_with fail
    go_ret
    exact ⟨rfl, rfl⟩
  | 1, _ =>
    show Calls Tryd.prog 20 #[.iface 108 (.pointer (some e1))] w _
    go_enter Tryd.func20, Tryd.ntmps20
    go_wp2_with fail
    go_ret
    exact ⟨rfl, rfl⟩
  | 2, _ =>
    show Calls Tryd.prog 20 #[.iface 108 (.pointer (some e2))] w _
    go_enter Tryd.func20, Tryd.ntmps20
    go_wp2_with fail
    go_ret
    exact ⟨rfl, rfl⟩
  | 3, _ =>
    show Calls Tryd.prog 20 #[.iface 108 (.pointer (some e3))] w _
    go_enter Tryd.func20, Tryd.ntmps20
    go_wp2_with fail
    go_ret
    exact ⟨rfl, rfl⟩

theorem PG.err_lt (G : PG) (v u : Int) : G.err v u < 4 := by
  unfold PG.err
  split
  · omega
  · split <;> omega

theorem v_any {w : World} {B g ob : Nat} {vs : Int → Option Nat} {G : PG} (h : GR w B g ob vs G) : Calls Tryd.prog 17 #[.pointer (some ⟨g, 0, none⟩)] w fun r w' => r = .returned (.int .i64 (G.nv : Nat)) ∧ w = w' := by
  have c1 := h.gg.blk.cell 1
  simp only [List.getElem?_toArray, List.getElem?_cons_succ, List.getElem?_cons_zero] at c1
  clear h
  go_enter Tryd.func17, Tryd.ntmps17
  go_wp2_with fail
  go_ret
  exact ⟨rfl, rfl⟩
theorem e_any {w : World} {B g ob : Nat} {vs : Int → Option Nat} {G : PG} (h : GR w B g ob vs G) : Calls Tryd.prog 18 #[.pointer (some ⟨g, 0, none⟩)] w fun r w' => r = .returned (.int .i64 (G.ne : Nat)) ∧ w = w' := by
  have c1 := h.gg.blk.cell 2
  simp only [List.getElem?_toArray, List.getElem?_cons_succ, List.getElem?_cons_zero] at c1
  clear h
  go_enter Tryd.func18, Tryd.ntmps18
  go_wp2_with fail
  go_ret
  exact ⟨rfl, rfl⟩

theorem deg_there {w : World} {B g ob : Nat} {vs : Int → Option Nat} {G : PG} (k : Int) (h : GR w B g ob vs G) (hk : G.ver k = true) :
    Calls Tryd.prog 19 #[.pointer (some ⟨g, 0, none⟩), .iface 3 (.int .i64 k)] w fun r w' => r = .returned (.tuple #[.int .i64 (G.deg k : Nat), .nilIface]) ∧ w = w' := by
  obtain ⟨b, hb⟩ : ∃ b, vs k = some b := by
    have : (vs k).isSome = true := by rw [h.ver]; exact hk
    exact Option.isSome_iff_exists.1 this
  have HI := Lib.hid (h.gg.inn k b hb)
  have HO := Lib.hid h.gg.out
  have c0 := h.gg.blk.cell 0
  simp only [List.getElem?_toArray, List.getElem?_cons_zero] at c0
  have fv : ((fun k => (vs k).map fun b => Value.map (some b)) k) = some (.map (some b)) := by simp [hb]
  have hl := HI.out.len Tryd.underlying68 3
  clear h hk hb
  go_enter Tryd.func19, Tryd.ntmps19
  go_wp2_with (at_lookup; go_loud (refine wpList_ilook_ok _ rfl (.tmp 12) (.tmp 13) 65 rfl 68 ikey Tryd.underlying65 (zero68 _) ob _ _ rfl HO.out k rfl ?_; simp only [fv, Option.getD_some, Option.isSome_some]))
  go_ret2
  exact ⟨rfl, rfl⟩
theorem deg_none {w : World} {B B2 g ob : Nat} {vs : Int → Option Nat} {G : PG} {e1 e2 e3 : Addr} (k : Int) (h : GR w B g ob vs G) (hE : Er w B2 e1 e2 e3) (hk : G.ver k = false) :
    Calls Tryd.prog 19 #[.pointer (some ⟨g, 0, none⟩), .iface 3 (.int .i64 k)] w fun r w' => r = .returned (.tuple #[.int .i64 0, .iface 108 (.pointer (some e1))]) ∧ Ch S0 w w' := by
  have hb : vs k = none := by
    have : (vs k).isSome = false := by rw [h.ver]; exact hk
    simpa using this
  have HO := Lib.hid h.gg.out
  have c0 := h.gg.blk.cell 0
  simp only [List.getElem?_toArray, List.getElem?_cons_zero] at c0
  have fv : ((fun k => (vs k).map fun b => Value.map (some b)) k) = none := by simp [hb]
  have v1 := hE.v1
  clear h hk hb hE
  go_enter Tryd.func19, Tryd.ntmps19
  go_wp2_with (at_lookup; go_loud (refine wpList_ilook_ok _ rfl (.tmp 12) (.tmp 13) 65 rfl 68 ikey Tryd.underlying65 (zero68 _) ob _ _ rfl HO.out k rfl ?_; simp only [fv, Option.getD_none, Option.isSome_none]))
  go_quiet (fail)
  go_wp2_with fail
  go_ret2
  exact ⟨rfl, by first | exact Ch.refl _ _ | exact (Ch.refl _ _).drew | exact ⟨rfl, rfl, rfl, Nat.le_refl _, fun _ _ _ => rfl⟩⟩
end Go.Proofs.YtjifdcklmpibpaaDoor
