/- SLICES IN MEMORY: what a slice reads as; append to a row of one's own; of whatever element type. -/
import Derived.Test.YtlppnbmaedgodaaM
import Derived.Lib.Hide
import Derived.Maps.AppendAt
import Derived.Laws.MakeOwn
import Derived.Outline
import Derived.StillTailTactics
import Derived.BigQuiet
namespace Go.Proofs.Ytlppnbmaedgodaa
open Go.RowKit
set_option linter.unusedVariables false
set_option linter.unusedSimpArgs false

/-- At A lie these cells. -/
def Rd (w : World) (A : Option Addr) (cells : List Value) : Prop := ∀ j x, cells[j]? = some x → ∃ b o, A = some ⟨b, o, none⟩ ∧ w.cell? ⟨b, o + j, none⟩ = some x

theorem Rd.keep {S : Nat → Prop} {w w' : World} {A : Option Addr} {cells : List Value} (h : Rd w A cells) (hc : Ch S w w') (hs : ∀ b o, A = some ⟨b, o, none⟩ → ¬ S b) : Rd w' A cells := fun j x hj => by
  obtain ⟨b, o, h1, h2⟩ := h j x hj
  exact ⟨b, o, h1, by rw [World.cell?_of_block (w := w) (hc.block b (World.block_lt_of_cell? w _ h2) (hs b o h1))]; exact h2⟩
theorem Rd.keep0 {w w' : World} {A : Option Addr} {cells : List Value} (h : Rd w A cells) (hc : Ch S0 w w') : Rd w' A cells := h.keep hc (fun _ _ _ h => h)
theorem Rd.nil (w : World) (A : Option Addr) : Rd w A [] := fun j x h => by simp at h
theorem Rd.lt {w : World} {A : Option Addr} {cells : List Value} (h : Rd w A cells) (hne : 0 < cells.length) : ∃ b o, A = some ⟨b, o, none⟩ ∧ b < w.heap.size := by
  obtain ⟨b, o, h1, h2⟩ := h 0 _ (List.getElem?_eq_getElem hne)
  exact ⟨b, o, h1, World.block_lt_of_cell? w _ h2⟩
theorem Rd.at {w : World} {A : Option Addr} {cells : List Value} (h : Rd w A cells) {j : Nat} {x : Value} (hj : cells[j]? = some x) : ∃ b o, A = some ⟨b, o, none⟩ ∧ w.cell? ⟨b, o + j, none⟩ = some x := h j x hj
theorem Rd.take {w : World} {A : Option Addr} {cells : List Value} (h : Rd w A cells) (n : Nat) : Rd w A (cells.take n) := fun j x hj => h j x (by
  rw [List.getElem?_take] at hj
  split at hj
  · exact hj
  · cases hj)
theorem Rd.drop {w : World} {b o : Nat} {cells : List Value} (h : Rd w (some ⟨b, o, none⟩) cells) (n : Nat) : Rd w (some ⟨b, o + n, none⟩) (cells.drop n) := fun j x hj => by
  rw [List.getElem?_drop] at hj
  obtain ⟨b', o', h1, h2⟩ := h _ x hj
  cases h1
  exact ⟨b, o + n, rfl, by rw [show o + n + j = o + (n + j) by omega]; exact h2⟩
theorem Rd.unique {w : World} {A : Option Addr} {c1 c2 : List Value} (h1 : Rd w A c1) (h2 : Rd w A c2) (hl : c1.length = c2.length) : c1 = c2 := by
  apply List.ext_getElem? 
  intro j
  by_cases hj : j < c1.length
  · obtain ⟨b, o, e1, f1⟩ := h1 j _ (List.getElem?_eq_getElem hj)
    obtain ⟨b', o', e2, f2⟩ := h2 j _ (List.getElem?_eq_getElem (by omega))
    rw [e1] at e2
    cases e2
    rw [f1] at f2
    rw [List.getElem?_eq_getElem hj, List.getElem?_eq_getElem (by omega)]
    exact f2
  · rw [List.getElem?_eq_none (by omega), List.getElem?_eq_none (by omega)]

/-- A new block, whole. -/
theorem Rd.new (w : World) (cells : List Value) (T : TypeId) : Rd (w.alloc (.cells cells.toArray T)) (some ⟨w.heap.size, 0, none⟩) cells := fun j x hj =>
  ⟨_, _, rfl, by rw [Nat.zero_add, (Blk.new w cells.toArray T).cell j]; simpa using hj⟩
theorem Rd.new' {w : World} (cells : List Value) {T : TypeId} {q : Nat} (hq : w.heap.size = q) : Rd (w.alloc (.cells cells.toArray T)) (some ⟨q, 0, none⟩) cells := hq ▸ Rd.new w cells T
theorem Rd.blk {w : World} {b : Nat} {c : Array Value} (h : Blk w b c) : Rd w (some ⟨b, 0, none⟩) c.toList := fun j x hj =>
  ⟨b, 0, rfl, by rw [Nat.zero_add, h.cell j]; simpa using hj⟩

theorem own_keepS {S : Nat → Prop} {w w' : World} {base e size n : Nat} {v : Value} {xs : List Value} (h : w.ownsRow base e size v n xs) (hc : Ch S w w') (hs : ∀ g, v.ownBlock = some g → ¬ S g) : w'.ownsRow base e size v n xs := by
  obtain ⟨h1, h2⟩ := h
  refine ⟨h1, ?_⟩
  rcases h2 with h2 | ⟨g, cap, cur, rfl, hb, hh, h3⟩
  · exact Or.inl h2
  · have hl : g < w.heap.size := (Array.getElem?_eq_some_iff.1 hh).1
    exact Or.inr ⟨g, cap, cur, rfl, hb, by rw [hc.block g hl (hs g rfl)]; exact hh, h3⟩
theorem own_keep0 {w w' : World} {base e size n : Nat} {v : Value} {xs : List Value} (h : w.ownsRow base e size v n xs) (hc : Ch S0 w w') : w'.ownsRow base e size v n xs := own_keepS h hc (fun _ _ h => h)
theorem own_lt {w : World} {base e size n : Nat} {v : Value} {xs : List Value} (h : w.ownsRow base e size v n xs) (g : Nat) (hg : v.ownBlock = some g) : base ≤ g ∧ g < w.heap.size := by
  rcases h.2 with ⟨rfl, _⟩ | ⟨g', cap, cur, rfl, hb, hh, _⟩
  · cases hg
  · cases hg
    exact ⟨hb, (Array.getElem?_eq_some_iff.1 hh).1⟩
theorem own_base {w : World} {base base' e size n : Nat} {v : Value} {xs : List Value} (h : w.ownsRow base e size v n xs) (hb : base' ≤ base) : w.ownsRow base' e size v n xs := by
  obtain ⟨h1, h2 | ⟨g, cap, cur, h3, h4, h5⟩⟩ := h
  · exact ⟨h1, Or.inl h2⟩
  · exact ⟨h1, Or.inr ⟨g, cap, cur, h3, Nat.le_trans hb h4, h5⟩⟩
theorem Ch.ofGrown {w w' : World} {S : Nat → Prop} {r : Option Nat} (h : w.grownBy w' r) (hr : ∀ k, r = some k → S k) : Ch S w w' :=
  ⟨h.os, h.tape, h.output, h.size, fun k hk hn => h.block k hk fun e => hn (hr k e.symm)⟩

/-- A row of one's own reads as its cells. -/
theorem own_rd {w : World} {base e size n : Nat} {v : Value} {xs : List Value} (h : w.ownsRow base e size v n xs) : ∃ A cap, v = .slice A n cap ∧ Rd w A xs ∧ n ≤ cap ∧ (∀ b o s, A = some ⟨b, o, s⟩ → v.ownBlock = some b ∧ base ≤ b ∧ b < w.heap.size) ∧ (n = 0 ∨ ∃ b, A = some ⟨b, 0, none⟩) ∧ xs.length = n * size := by
  obtain ⟨h1, h2⟩ := h
  rcases h2 with ⟨rfl, rfl⟩ | ⟨g, cap, cur, rfl, hb, hh, hnc, h4, h5, h6⟩
  · have : xs = [] := List.eq_nil_of_length_eq_zero (by omega)
    subst this
    exact ⟨none, 0, rfl, Rd.nil _ _, Nat.le_refl _, fun b o s h => (by cases h), Or.inl rfl, h1⟩
  · refine ⟨_, cap, rfl, fun j x hj => ?_, hnc, fun b o s h => ?_, Or.inr ⟨g, rfl⟩, h1⟩
    · refine ⟨g, 0, rfl, ?_⟩
      have hjl : j < n * size := by
        have := (List.getElem?_eq_some_iff.1 hj).1
        omega
      simp only [World.cell?, hh, Nat.zero_add]
      rw [← h6, List.getElem?_take_of_lt hjl] at hj
      simpa using hj
    · cases h
      exact ⟨rfl, hb, (Array.getElem?_eq_some_iff.1 hh).1⟩

/-- The element type E of a slice type T: one element is size cells. -/
structure EL (P : Program) (T E : TypeId) (size bytes : Nat) : Prop where
  ht : P.underlying T = some (.slice E)
  hi : ∃ i z, P.info? E = some i ∧ i.zero = some z ∧ i.size = size ∧ i.bytes = bytes ∧ z.cells.size = size
  pos : 0 < size
theorem EL.of {P : Program} {T E : TypeId} {z : Value} {size bytes : Nat} (ht : P.underlying T = some (.slice E)) (h : (P.info? E).map (fun i => (i.zero, i.size, i.bytes)) = some (some z, size, bytes)) (hz : z.cells.size = size) (hp : 0 < size) : EL P T E size bytes := by
  obtain ⟨i, h1, h2, h3, h4⟩ := info_parts h
  exact ⟨ht, ⟨i, z, h1, h2, h3, h4, hz⟩, hp⟩

/-- out = append(out, x): x was laid in a block of its own just before. -/
theorem app_own {P : Program} {w : World} {ops : Array Oper} {rest : List Oper} {o : Oper} {a : Act} {Q : Exit → Act → World → Prop} {T E size bytes : Nat} (L : EL P T E size bytes) (hgd : o.guard = none) (s x : Operand)
    (ho : o.op = .call { callee := .builtin .append, args := #[s, x], argTypes := #[T, T] }) (base n : Nat) (v : Value) (xs : List Value) (hs : a.eval s = v) (hown : w.ownsRow base E size v n xs)
    (ys : List Value) (hyl : ys.length = size) (h1 : ∀ u ∈ ys, u.oneCell' = true) (q0 : Nat) (hq0 : w.heap.size = q0) (hx : a.eval x = .slice (some ⟨q0, 0, none⟩) 1 1) (hn : n + 1 ≤ maxLen) (hn2 : (n + 1) * bytes ≤ 140737488355328) (hb : base ≤ w.heap.size)
    (h : ∀ v' w', w'.ownsRow base E size v' (n + 1) (xs ++ ys) → Ch (fun k => v.ownBlock = some k) w w' → (v'.ownBlock = v.ownBlock ∨ v'.ownBlock = some (w.heap.size + 1)) → wpList P ops Q rest (a.put o.dst v') w') :
    wpList P ops Q (o :: rest) a (w.alloc (.cells ys.toArray E)) := by
  subst hq0
  obtain ⟨ht, ⟨i0, z, hi0, hz0, hz1, hz2, hz3⟩, hp⟩ := L
  refine wpList_append_own_at _ hgd s x T ho base E i0 z size bytes ht hi0 hz0 hz1 hz2 hz3 hp v n xs hs (own_keep0 hown ((Ch.refl S0 _).alloc _)) ⟨w.heap.size, 0, none⟩ 1 1 ys hx (by omega) ?_ h1 hn hn2 (by simp; omega) ?_
  · intro j u hj
    have := Rd.new w ys E j u hj
    obtain ⟨b, o, e, h⟩ := this
    cases e
    have e2 : (⟨w.heap.size, 0, none⟩ : Addr).add j = ⟨w.heap.size, 0 + j, none⟩ := by
      unfold Addr.add
      by_cases hx : j = 0
      · simp [hx]
      · simp [hx]
    rw [e2]
    exact h
  · intro v' w' g1 g2 _ g3
    exact h v' w' g1 (((Ch.refl _ _).alloc _).trans (Ch.ofGrown g2 fun k hk => hk)) (by simpa using g3)

/-- out = append(out, l...) -/
theorem app_all {P : Program} {w : World} {ops : Array Oper} {rest : List Oper} {o : Oper} {a : Act} {Q : Exit → Act → World → Prop} {T E size bytes : Nat} (L : EL P T E size bytes) (hgd : o.guard = none) (s x : Operand)
    (ho : o.op = .call { callee := .builtin .append, args := #[s, x], argTypes := #[T, T] }) (base n : Nat) (v : Value) (xs : List Value) (hs : a.eval s = v) (hown : w.ownsRow base E size v n xs)
    (b off m c : Nat) (ys : List Value) (hyl : ys.length = m * size) (h1 : ∀ u ∈ ys, u.oneCell' = true) (hx : a.eval x = .slice (some ⟨b, off, none⟩) m c) (hr : Rd w (some ⟨b, off, none⟩) ys) (hn : n + m ≤ maxLen) (hn2 : (n + m) * bytes ≤ 140737488355328) (hb : base ≤ w.heap.size)
    (h : ∀ v' w', w'.ownsRow base E size v' (n + m) (xs ++ ys) → Ch (fun k => v.ownBlock = some k) w w' → (v'.ownBlock = v.ownBlock ∨ v'.ownBlock = some w.heap.size) → (v' = .slice none 0 0 ↔ v = .slice none 0 0 ∧ m = 0) → wpList P ops Q rest (a.put o.dst v') w') :
    wpList P ops Q (o :: rest) a w := by
  obtain ⟨ht, ⟨i0, z, hi0, hz0, hz1, hz2, hz3⟩, hp⟩ := L
  refine wpList_append_own_at _ hgd s x T ho base E i0 z size bytes ht hi0 hz0 hz1 hz2 hz3 hp v n xs hs hown ⟨b, off, none⟩ m c ys hx hyl ?_ h1 hn hn2 hb ?_
  · intro j u hj
    obtain ⟨b', o', e, h⟩ := hr j u hj
    cases e
    have e2 : (⟨b, off, none⟩ : Addr).add j = ⟨b, off + j, none⟩ := by
      unfold Addr.add
      by_cases hx : j = 0
      · simp [hx]
      · simp [hx]
    rw [e2]
    exact h
  · intro v' w' g1 g2 g4 g3
    exact h v' w' g1 (Ch.ofGrown g2 fun k hk => hk) g3 g4

/-- out = append(out, l...) inside a region that draws its order. -/
theorem step_all {P : Program} {w : World} {ops : Array Oper} {o : Oper} {a : Act} {K : Act → World → Prop} {Q : Exit → Act → World → Prop} {F : Prop} {T E size bytes : Nat} (L : EL P T E size bytes) (hgd : o.guard = none) (s x : Operand)
    (ho : o.op = .call { callee := .builtin .append, args := #[s, x], argTypes := #[T, T] }) (base n : Nat) (v : Value) (xs : List Value) (hs : a.eval s = v) (hown : w.ownsRow base E size v n xs)
    (b off m c : Nat) (ys : List Value) (hyl : ys.length = m * size) (h1 : ∀ u ∈ ys, u.oneCell' = true) (hx : a.eval x = .slice (some ⟨b, off, none⟩) m c) (hr : Rd w (some ⟨b, off, none⟩) ys) (hn : n + m ≤ maxLen) (hn2 : (n + m) * bytes ≤ 140737488355328) (hb : base ≤ w.heap.size)
    (h : ∀ v' w', w'.ownsRow base E size v' (n + m) (xs ++ ys) → Ch (fun k => v.ownBlock = some k) w w' → (v'.ownBlock = v.ownBlock ∨ v'.ownBlock = some w.heap.size) → (v' = .slice none 0 0 ↔ v = .slice none 0 0 ∧ m = 0) → K (a.put o.dst v') w') :
    if Region.wanted o (yielded ops a.tmps) = true then Oper.wp P o a w K Q else F := by
  have hw : Region.wanted o (yielded ops a.tmps) = true := by simp [Region.wanted, hgd]
  rw [if_pos hw]
  obtain ⟨ht, ⟨i0, z, hi0, hz0, hz1, hz2, hz3⟩, hp⟩ := L
  obtain ⟨v', w', hr, h2, h3, h4, h5⟩ := run_append_own_at (P := P) w base T o.type E i0 z size bytes ht hi0 hz0 hz1 hz2 hz3 hp v n xs hown ⟨b, off, none⟩ m c ys hyl (fun j u hj => by
    obtain ⟨b', o', e, h⟩ := hr j u hj
    cases e
    have e2 : (⟨b, off, none⟩ : Addr).add j = ⟨b, off + j, none⟩ := by
      unfold Addr.add
      by_cases hx : j = 0
      · simp [hx]
      · simp [hx]
    rw [e2]
    exact h) h1 hn hn2 hb
  unfold Oper.wp execOp
  simp only [ho, resolve, invoke, builtin, Sem.run_bind, Sem.run_pure, Result.andThen_ok, List.map_toArray, List.map_cons, List.map_nil, hs, hx, hr]
  exact h v' w' h2 (Ch.ofGrown h3 fun k hk => hk) h5 h4

/-- make of elements of one cell. -/
theorem make_one {P : Program} {T E bytes : Nat} {z : Value} (ht : P.underlying T = some (.slice E)) (h : (P.info? E).map (fun i => (i.zero, i.size, i.bytes)) = some (some z, 1, bytes)) (hz : z.cells = #[z]) (k1 k2 : IntKind) (n c : Nat) (hn : n ≤ c) (hc : bytes * c ≤ 281474976710656) (hc2 : c ≤ 1000000000) (w : World) :
    (Instr.makeSlice T (.int k1 (n : Int)) (.int k2 (c : Int))).run P w = .ok (.slice (some ⟨w.heap.size, 0, none⟩) n c) (w.alloc (.cells (Array.replicate c z) E)) := by
  obtain ⟨i0, hi, hz0, hz1, hz2⟩ := info_parts h
  have e : ∀ n, madeCells z.cells n = Array.replicate n z := fun n => by
    apply Array.ext
    · simp [madeCells]
    · intro i h1 h2
      simp [madeCells, hz, Nat.mod_one]
  have hb : (i0.bytes : Int) * (c : Int) ≤ 281474976710656 := by
    rw [hz2]
    have h : ((bytes * c : Nat) : Int) ≤ 281474976710656 := by omega
    rwa [Int.natCast_mul] at h
  have := run_make (P := P) w T E i0 z ht hi hz0 k1 k2 n c (by omega) (by omega) hb (by omega)
  rw [this, hz1, Nat.mul_one, e]
  simp

/-- Whole numbers as cells. -/
def iv (xs : List Int) : List Value := xs.map (.int .i64)
@[simp] theorem iv_length (xs : List Int) : (iv xs).length = xs.length := by simp [iv]
theorem iv_at {xs : List Int} {j : Nat} {x : Int} (h : xs[j]? = some x) : (iv xs)[j]? = some (.int .i64 x) := by simp [iv, h]
theorem iv_snoc (xs : List Int) (x : Int) : iv (xs ++ [x]) = iv xs ++ [.int .i64 x] := by simp [iv]
theorem iv_one (xs : List Int) : ∀ u ∈ iv xs, u.oneCell' = true := by
  intro u hu
  simp only [iv, List.mem_map] at hu
  obtain ⟨x, _, rfl⟩ := hu
  rfl
end Go.Proofs.Ytlppnbmaedgodaa
