/- WALKS: the nodes of a heap in memory; two rings become one. -/
import Derived.Test.YtbfcnimebdoagaaFC
import Derived.Test.YtbfcnimebdoagaaS
import Derived.Laws.OwnMore
import Derived.Deep.RegionLaw
import Derived.BigRegion
import Derived.BigQuiet
namespace Go.Proofs.Ytbfcnimebdoagaa
open Go.RowKit
set_option linter.unusedVariables false
set_option linter.unusedSimpArgs false

def pt (a : Nat) : Value := .pointer (some ⟨a, 0, none⟩)
def op (o : Option Nat) : Value := match o with | none => .pointer none | some a => .pointer (some ⟨a, 0, none⟩)
def fv (p : Int) : Value := .float .f64 (floatOfInt .f64 p)
def cells (s : FS) (a : Nat) : Array Value := #[.int .i64 (s.deg a), .bool (s.mr a), .pointer (some ⟨s.nx a, 0, none⟩), .pointer (some ⟨s.pv a, 0, none⟩), op (s.ch a), op (s.par a), .float .f64 (floatOfInt .f64 (s.pr a))]
/-- The nodes N stand in memory. -/
def Mem (w : World) (N : List Nat) (s : FS) : Prop := ∀ a ∈ N, Blk w a (cells s a)
def Sm (N : List Nat) (s : FS) : Prop := ∀ a ∈ N, (s.pr a).natAbs < 2 ^ 53
theorem Mem.keep {S : Nat → Prop} {w w' : World} {N : List Nat} {s : FS} (h : Mem w N s) (hc : Ch S w w') (hs : ∀ a ∈ N, ¬ S a) : Mem w' N s := fun a ha => (h a ha).keep hc (hs a ha)
theorem Mem.lt {w : World} {N : List Nat} {s : FS} (h : Mem w N s) {a : Nat} (ha : a ∈ N) : a < w.heap.size := (h a ha).lt
theorem Mem.c0 {w : World} {N : List Nat} {s : FS} (h : Mem w N s) {a : Nat} (ha : a ∈ N) : w.cell? ⟨a, 0, none⟩ = some (.int .i64 (s.deg a)) := (h a ha).cell 0
theorem Mem.c1 {w : World} {N : List Nat} {s : FS} (h : Mem w N s) {a : Nat} (ha : a ∈ N) : w.cell? ⟨a, 1, none⟩ = some (.bool (s.mr a)) := (h a ha).cell 1
theorem Mem.c2 {w : World} {N : List Nat} {s : FS} (h : Mem w N s) {a : Nat} (ha : a ∈ N) : w.cell? ⟨a, 2, none⟩ = some (.pointer (some ⟨s.nx a, 0, none⟩)) := (h a ha).cell 2
theorem Mem.c3 {w : World} {N : List Nat} {s : FS} (h : Mem w N s) {a : Nat} (ha : a ∈ N) : w.cell? ⟨a, 3, none⟩ = some (.pointer (some ⟨s.pv a, 0, none⟩)) := (h a ha).cell 3
theorem Mem.c4 {w : World} {N : List Nat} {s : FS} (h : Mem w N s) {a : Nat} (ha : a ∈ N) : w.cell? ⟨a, 4, none⟩ = some (op (s.ch a)) := (h a ha).cell 4
theorem Mem.c5 {w : World} {N : List Nat} {s : FS} (h : Mem w N s) {a : Nat} (ha : a ∈ N) : w.cell? ⟨a, 5, none⟩ = some (op (s.par a)) := (h a ha).cell 5
theorem Mem.c6 {w : World} {N : List Nat} {s : FS} (h : Mem w N s) {a : Nat} (ha : a ∈ N) : w.cell? ⟨a, 6, none⟩ = some (.float .f64 (floatOfInt .f64 (s.pr a))) := (h a ha).cell 6
theorem Mem.free {w : World} {N : List Nat} {s : FS} (h : Mem w N s) {a : Nat} (ha : a ∈ N) (i : Nat) : w.frozen? ⟨a, i, none⟩ = false := (h a ha).free i
theorem Mem.setG {w : World} {N : List Nat} {s s' : FS} (h : Mem w N s) {a : Nat} (i : Nat) (v : Value) (h1 : ∀ x ∈ N, x ≠ a → cells s' x = cells s x) (h2 : a ∈ N → (cells s a).setIfInBounds i v = cells s' a) : Mem (w.setCell ⟨a, i, none⟩ v) N s' := by
  intro x hx
  by_cases e : x = a
  · subst e
    rw [← h2 hx]
    exact (h x hx).set i v
  · rw [h1 x hx e]
    exact (h x hx).setOther (p := ⟨a, i, none⟩) (Ne.symm e) v
theorem cells_ext {s s' : FS} {x : Nat} (h0 : s'.deg x = s.deg x) (h1 : s'.mr x = s.mr x) (h2 : s'.nx x = s.nx x) (h3 : s'.pv x = s.pv x) (h4 : s'.ch x = s.ch x) (h5 : s'.par x = s.par x) (h6 : s'.pr x = s.pr x) : cells s' x = cells s x := by
  unfold cells; rw [h0, h1, h2, h3, h4, h5, h6]
theorem Mem.set0 {w : World} {N : List Nat} {s : FS} (h : Mem w N s) (a : Nat) (v : Nat) : Mem (w.setCell ⟨a, 0, none⟩ (.int .i64 v)) N { s with deg := upd s.deg a v } :=
  h.setG 0 _ (fun x _ hx => cells_ext (upd_ne _ _ hx) rfl rfl rfl rfl rfl rfl) (fun _ => by simp [cells, upd])
theorem Mem.set1 {w : World} {N : List Nat} {s : FS} (h : Mem w N s) (a : Nat) (v : Bool) : Mem (w.setCell ⟨a, 1, none⟩ (.bool v)) N { s with mr := upd s.mr a v } :=
  h.setG 1 _ (fun x _ hx => cells_ext rfl (upd_ne _ _ hx) rfl rfl rfl rfl rfl) (fun _ => by simp [cells, upd])
theorem Mem.set2 {w : World} {N : List Nat} {s : FS} (h : Mem w N s) (a : Nat) (v : Nat) : Mem (w.setCell ⟨a, 2, none⟩ (.pointer (some ⟨v, 0, none⟩))) N { s with nx := upd s.nx a v } :=
  h.setG 2 _ (fun x _ hx => cells_ext rfl rfl (upd_ne _ _ hx) rfl rfl rfl rfl) (fun _ => by simp [cells, upd])
theorem Mem.set3 {w : World} {N : List Nat} {s : FS} (h : Mem w N s) (a : Nat) (v : Nat) : Mem (w.setCell ⟨a, 3, none⟩ (.pointer (some ⟨v, 0, none⟩))) N { s with pv := upd s.pv a v } :=
  h.setG 3 _ (fun x _ hx => cells_ext rfl rfl rfl (upd_ne _ _ hx) rfl rfl rfl) (fun _ => by simp [cells, upd])
theorem Mem.set4 {w : World} {N : List Nat} {s : FS} (h : Mem w N s) (a : Nat) (v : Option Nat) : Mem (w.setCell ⟨a, 4, none⟩ (op v)) N { s with ch := upd s.ch a v } :=
  h.setG 4 _ (fun x _ hx => cells_ext rfl rfl rfl rfl (upd_ne _ _ hx) rfl rfl) (fun _ => by simp [cells, upd])
theorem Mem.set5 {w : World} {N : List Nat} {s : FS} (h : Mem w N s) (a : Nat) (v : Option Nat) : Mem (w.setCell ⟨a, 5, none⟩ (op v)) N { s with par := upd s.par a v } :=
  h.setG 5 _ (fun x _ hx => cells_ext rfl rfl rfl rfl rfl (upd_ne _ _ hx) rfl) (fun _ => by simp [cells, upd])
theorem Mem.set6 {w : World} {N : List Nat} {s : FS} (h : Mem w N s) (a : Nat) (v : Int) : Mem (w.setCell ⟨a, 6, none⟩ (.float .f64 (floatOfInt .f64 v))) N { s with pr := upd s.pr a v } :=
  h.setG 6 _ (fun x _ hx => cells_ext rfl rfl rfl rfl rfl rfl (upd_ne _ _ hx)) (fun _ => by simp [cells, upd])
/-- The blocks of the nodes. -/
def SN (N : List Nat) : Nat → Prop := fun k => k ∈ N

theorem Ch.drewN {S : Nat → Prop} {a w : World} (h : Ch S a w) (n : Nat) : Ch S a (w.drewN n) := ⟨h.os, h.tape, h.output, h.size, h.block⟩
theorem Mem.drewN {w : World} {N : List Nat} {s : FS} (h : Mem w N s) (n : Nat) : Mem (w.drewN n) N s := h
theorem merge_nil (o : Option Nat) (w : World) : Calls Try.prog 50 #[.pointer none, op o] w fun r w' => r = .returned (op o) ∧ w' = w := by
  cases o with
  | none =>
    unfold op
    go_enter Try.func50, Try.ntmps50
    go_wp2_with fail
    go_ret
    exact ⟨rfl, rfl⟩
  | some b =>
    unfold op
    go_enter Try.func50, Try.ntmps50
    go_wp2_with fail
    go_ret
    exact ⟨rfl, rfl⟩
theorem merge_one (a : Nat) (w : World) : Calls Try.prog 50 #[.pointer (some ⟨a, 0, none⟩), .pointer none] w fun r w' => r = .returned (.pointer (some ⟨a, 0, none⟩)) ∧ w' = w := by
  go_enter Try.func50, Try.ntmps50
  go_wp2_with fail
  go_ret
  exact ⟨rfl, rfl⟩
end Go.Proofs.Ytbfcnimebdoagaa
