/- MEMORY: what a bitset in memory is, what a slice of numbers reads as, what of the world has changed. -/
import Derived.Test.YtlppnbmaedgodaaRows

import Derived.WalkKit
import Derived.WalkSpells
import Derived.WalkLawsBesides
namespace Go.Proofs.Ytlppnbmaedgodaa
open Go.RowKit
set_option linter.unusedVariables false
set_option linter.unusedSimpArgs false

/-- Of the blocks of w those outside S are as they were. -/
structure Ch (S : Nat → Prop) (w w' : World) : Prop where
  os : w'.os = w.os
  tape : w'.tape = w.tape
  output : w'.output = w.output
  size : w.heap.size ≤ w'.heap.size
  block : ∀ k, k < w.heap.size → ¬ S k → w'.heap[k]? = w.heap[k]?

/-- no block, one block, two blocks -/
def S0 : Nat → Prop := fun _ => False
def S1 (a : Nat) : Nat → Prop := fun k => k = a
def S2 (a b : Nat) : Nat → Prop := fun k => k = a ∨ k = b

theorem Ch.refl (S : Nat → Prop) (w : World) : Ch S w w := ⟨rfl, rfl, rfl, Nat.le_refl _, fun _ _ _ => rfl⟩
theorem Ch.mono {S T : Nat → Prop} {w w' : World} (h : Ch S w w') (hs : ∀ k, k < w.heap.size → S k → T k) : Ch T w w' :=
  ⟨h.os, h.tape, h.output, h.size, fun k hk hn => h.block k hk fun hS => hn (hs k hk hS)⟩
theorem Ch.trans {S : Nat → Prop} {a b c : World} (h : Ch S a b) (k : Ch S b c) : Ch S a c :=
  ⟨k.os.trans h.os, k.tape.trans h.tape, k.output.trans h.output, Nat.le_trans h.size k.size, fun i hi hn => (k.block i (Nat.lt_of_lt_of_le hi h.size) hn).trans (h.block i hi hn)⟩
/-- The second step may change more, as long as what it changes beside S is new. -/
theorem Ch.trans' {S T : Nat → Prop} {a b c : World} (h : Ch S a b) (k : Ch T b c) (hT : ∀ i, i < a.heap.size → T i → S i) : Ch S a c :=
  ⟨k.os.trans h.os, k.tape.trans h.tape, k.output.trans h.output, Nat.le_trans h.size k.size, fun i hi hn => (k.block i (Nat.lt_of_lt_of_le hi h.size) fun hs => hn (hT i hi hs)).trans (h.block i hi hn)⟩
theorem Ch.alloc {S : Nat → Prop} {a w : World} (h : Ch S a w) (o : Obj) : Ch S a (w.alloc o) :=
  h.trans ⟨rfl, rfl, rfl, by simp, fun k hk _ => Below.heap_alloc _ _ _ hk⟩
theorem Ch.drew {S : Nat → Prop} {a w : World} (h : Ch S a w) : Ch S a w.drew := ⟨h.os, h.tape, h.output, h.size, h.block⟩
theorem Ch.setCell {S : Nat → Prop} {a w : World} (h : Ch S a w) (p : Addr) (hp : p.block < a.heap.size → S p.block) (u : Value) : Ch S a (w.setCell p u) :=
  ⟨h.os, h.tape, h.output, by simpa using h.size, fun k hk hn => by rw [Below.heap_setCell _ _ _ _ (by intro e; subst e; exact hn (hp hk))]; exact h.block k hk hn⟩
theorem Ch.below {S : Nat → Prop} {B : Nat} {w w' : World} (h : Ch S w w') (hB : B ≤ w.heap.size) (hS : ∀ k, k < B → ¬ S k) : Below B w w' :=
  ⟨h.os, h.tape, h.output, h.size, fun k hk => h.block k (by omega) (hS k hk)⟩
theorem Ch.of_below {w w' : World} (h : Below w.heap.size w w') (S : Nat → Prop) : Ch S w w' :=
  ⟨h.os, h.tape, h.output, h.size, fun k hk _ => h.block k hk⟩

/-- Block b is there, writable, and holds these cells. -/
def Blk (w : World) (b : Nat) (c : Array Value) : Prop := ∃ T, w.heap[b]? = some (.cells c T (0, 0))

theorem Blk.lt {w : World} {b : Nat} {c : Array Value} (h : Blk w b c) : b < w.heap.size := by
  obtain ⟨T, h⟩ := h
  exact (Array.getElem?_eq_some_iff.1 h).1
theorem Blk.cell {w : World} {b : Nat} {c : Array Value} (h : Blk w b c) (i : Nat) : w.cell? ⟨b, i, none⟩ = c[i]? := by
  obtain ⟨T, h⟩ := h
  simp [World.cell?, h]
theorem Blk.free {w : World} {b : Nat} {c : Array Value} (h : Blk w b c) (i : Nat) : w.frozen? ⟨b, i, none⟩ = false := by
  obtain ⟨T, h⟩ := h
  simp [World.frozen?, h]
theorem Blk.keep {S : Nat → Prop} {w w' : World} {b : Nat} {c : Array Value} (h : Blk w b c) (hc : Ch S w w') (hb : ¬ S b) : Blk w' b c := by
  have hl := h.lt
  obtain ⟨T, h⟩ := h
  exact ⟨T, (hc.block b hl hb).trans h⟩
theorem Blk.new (w : World) (c : Array Value) (T : TypeId) : Blk (w.alloc (.cells c T)) w.heap.size c := ⟨T, by show (w.heap.push _)[_]? = _; simp⟩
theorem Blk.alloc {w : World} {b : Nat} {c : Array Value} (h : Blk w b c) (o : Obj) : Blk (w.alloc o) b c := h.keep ((Ch.refl S0 w).alloc o) (fun h => h)
theorem Blk.drew {w : World} {b : Nat} {c : Array Value} (h : Blk w b c) : Blk w.drew b c := h
theorem Blk.set {w : World} {b : Nat} {c : Array Value} (h : Blk w b c) (i : Nat) (v : Value) : Blk (w.setCell ⟨b, i, none⟩ v) b (c.setIfInBounds i v) := by
  obtain ⟨T, h⟩ := h
  refine ⟨T, ?_⟩
  simp [World.setCell, Array.getElem?_modify, h]
theorem Blk.setOther {w : World} {b : Nat} {c : Array Value} (h : Blk w b c) {p : Addr} (hp : p.block ≠ b) (v : Value) : Blk (w.setCell p v) b c := by
  obtain ⟨T, h⟩ := h
  exact ⟨T, by rw [Below.heap_setCell _ _ _ _ (Ne.symm hp)]; exact h⟩


theorem Ch.setRow {S : Nat → Prop} {a w : World} (h : Ch S a w) (g : Nat) (hg : g < a.heap.size → S g) (cs : Array Value) : Ch S a (w.setRow g cs) :=
  ⟨h.os, h.tape, h.output, by simpa using h.size, fun k hk hn => by rw [setRow_other _ _ _ _ (by intro e; subst e; exact hn (hg hk))]; exact h.block k hk hn⟩
theorem Blk.row {w : World} {b : Nat} {c : Array Value} (h : Blk w b c) (cs : Array Value) : Blk (w.setRow b cs) b cs := by
  obtain ⟨T, h⟩ := h
  exact ⟨T, setRow_heap _ _ _ _ _ _ h⟩
theorem Blk.rowOther {w : World} {b g : Nat} {c : Array Value} (h : Blk w b c) (hg : g ≠ b) (cs : Array Value) : Blk (w.setRow g cs) b c := by
  obtain ⟨T, h⟩ := h
  exact ⟨T, by rw [setRow_other _ _ _ _ (Ne.symm hg)]; exact h⟩

end Go.Proofs.Ytlppnbmaedgodaa
