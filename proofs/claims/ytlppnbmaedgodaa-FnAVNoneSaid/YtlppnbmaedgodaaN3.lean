/- WALKS: steps on trees. -/
import Derived.Test.YtlppnbmaedgodaaN2
namespace Go.Proofs.Ytlppnbmaedgodaa
open Go.RowKit
set_option linter.unusedVariables false
set_option linter.unusedSimpArgs false

/-- A step, with the place of its entries. -/
structure St where
  op : Nat
  fr : Nat
  es : List (Int × Int)
  A : Option Addr
  c : Nat
def St.cells (s : St) : List Value := [.int .i64 s.op, .int .i64 s.fr, .slice s.A s.es.length s.c]
def stC (ss : List St) : List Value := ss.flatMap St.cells
/-- What was said, with its places. -/
structure Sd where
  m : Nat
  an : List (Int × Option Int)
  A1 : Option Addr
  c1 : Nat
  A2 : Option Addr
  c2 : Nat
def Sd.cells (d : Sd) : List Value := [.int .i64 d.m, .slice d.A1 d.an.length d.c1, .slice d.A2 d.an.length d.c2]
def sdC (ds : List Sd) : List Value := ds.flatMap Sd.cells
theorem c3_at {α : Type} (f : α → List Value) (hf : ∀ x, (f x).length = 3) : ∀ {l : List α} {i : Nat} {x : α}, l[i]? = some x → ∀ j, j < 3 → (l.flatMap f)[i * 3 + j]? = (f x)[j]?
  | y :: l, 0, x, h, j, hj => by
    simp at h
    subst h
    rw [List.flatMap_cons, List.getElem?_append_left (by rw [hf]; omega)]
    congr 1
    omega
  | y :: l, i + 1, x, h, j, hj => by
    have ih := c3_at f hf (l := l) (i := i) (x := x) (by simpa using h) j hj
    rw [List.flatMap_cons, List.getElem?_append_right (by rw [hf]; omega), hf, ← ih]
    congr 1
    omega
theorem c3_len {α : Type} (f : α → List Value) (hf : ∀ x, (f x).length = 3) (l : List α) : (l.flatMap f).length = l.length * 3 := by
  induction l with
  | nil => rfl
  | cons x l ih => rw [List.flatMap_cons, List.length_append, ih, hf, List.length_cons]; omega
theorem rd_st {w : World} {A : Option Addr} {ss : List St} {i : Nat} {s : St} (h : Rd w A (stC ss)) (hi : ss[i]? = some s) : ∃ b o, A = some ⟨b, o, none⟩ ∧ w.cell? ⟨b, o + i * 3, none⟩ = some (.int .i64 s.op) ∧ w.cell? ⟨b, o + i * 3 + 1, none⟩ = some (.int .i64 s.fr) ∧ w.cell? ⟨b, o + i * 3 + 2, none⟩ = some (.slice s.A s.es.length s.c) := by
  have hh := c3_at St.cells (fun _ => rfl) hi
  obtain ⟨b, o, e, c0⟩ := h.at (hh 0 (by omega) : (stC ss)[i * 3 + 0]? = some (.int .i64 s.op))
  obtain ⟨b1, o1, e1, c1⟩ := h.at (hh 1 (by omega) : (stC ss)[i * 3 + 1]? = some (.int .i64 s.fr))
  obtain ⟨b2, o2, e2, c2⟩ := h.at (hh 2 (by omega) : (stC ss)[i * 3 + 2]? = some (.slice s.A s.es.length s.c))
  rw [e] at e1 e2
  cases e1
  cases e2
  exact ⟨b, o, e, c0, by rw [Nat.add_assoc]; exact c1, by rw [Nat.add_assoc]; exact c2⟩
theorem rd_sd {w : World} {A : Option Addr} {ss : List Sd} {i : Nat} {s : Sd} (h : Rd w A (sdC ss)) (hi : ss[i]? = some s) : ∃ b o, A = some ⟨b, o, none⟩ ∧ w.cell? ⟨b, o + i * 3, none⟩ = some (.int .i64 s.m) ∧ w.cell? ⟨b, o + i * 3 + 1, none⟩ = some (.slice s.A1 s.an.length s.c1) ∧ w.cell? ⟨b, o + i * 3 + 2, none⟩ = some (.slice s.A2 s.an.length s.c2) := by
  have hh := c3_at Sd.cells (fun _ => rfl) hi
  obtain ⟨b, o, e, c0⟩ := h.at (hh 0 (by omega) : (sdC ss)[i * 3 + 0]? = some (.int .i64 s.m))
  obtain ⟨b1, o1, e1, c1⟩ := h.at (hh 1 (by omega) : (sdC ss)[i * 3 + 1]? = some (.slice s.A1 s.an.length s.c1))
  obtain ⟨b2, o2, e2, c2⟩ := h.at (hh 2 (by omega) : (sdC ss)[i * 3 + 2]? = some (.slice s.A2 s.an.length s.c2))
  rw [e] at e1 e2
  cases e1
  cases e2
  exact ⟨b, o, e, c0, by rw [Nat.add_assoc]; exact c1, by rw [Nat.add_assoc]; exact c2⟩
theorem sdC_snoc (ds : List Sd) (d : Sd) : sdC (ds ++ [d]) = sdC ds ++ d.cells := by simp [sdC]
theorem stC_app (a b : List St) : stC (a ++ b) = stC a ++ stC b := by simp [stC]
/-- The plain steps: the lists that the trees hold, and what is said. -/
def stepL (Ls : List (List (Int × Int))) (s : St) : List (List (Int × Int)) :=
  let L := Ls.getD s.fr []
  if s.op = 1 then Ls ++ [finL L s.es] else if s.op = 2 then Ls ++ [L] else Ls
def stepO (Ls : List (List (Int × Int))) (s : St) : Nat × List (Int × Option Int) :=
  let L := Ls.getD s.fr []
  if s.op = 1 then ((finL L s.es).length, ansI L s.es) else (L.length, ansG L s.es)
def runL (Ls : List (List (Int × Int))) : List St → List (List (Int × Int))
  | [] => Ls
  | s :: ss => runL (stepL Ls s) ss
def runO (Ls : List (List (Int × Int))) : List St → List (Nat × List (Int × Option Int))
  | [] => []
  | s :: ss => stepO Ls s :: runO (stepL Ls s) ss
theorem runL_snoc (s : St) : ∀ (ss : List St) (Ls : List (List (Int × Int))), runL Ls (ss ++ [s]) = stepL (runL Ls ss) s
  | [], Ls => rfl
  | x :: ss, Ls => runL_snoc s ss _
theorem runO_snoc (s : St) : ∀ (ss : List St) (Ls : List (List (Int × Int))), runO Ls (ss ++ [s]) = runO Ls ss ++ [stepO (runL Ls ss) s]
  | [], Ls => rfl
  | x :: ss, Ls => by simp only [List.cons_append, runO, runL, runO_snoc s ss _]
/-- A step that may be done. -/
def Fine (Ls : List (List (Int × Int))) (s : St) : Prop :=
  s.fr < Ls.length ∧ (s.op = 1 ∨ s.op = 2 ∨ s.op = 3) ∧ 0 < s.es.length ∧ s.es.length ≤ 100 ∧ (Ls.getD s.fr []).length ≤ 60 ∧ (s.op = 2 → ∀ e ∈ s.es, lget e.1 (Ls.getD s.fr []) = none)
def FineAll (Ls : List (List (Int × Int))) : List St → Prop
  | [] => True
  | s :: ss => Fine Ls s ∧ FineAll (stepL Ls s) ss
theorem fine_at {s : St} : ∀ {ss : List St} {Ls : List (List (Int × Int))} {i : Nat}, FineAll Ls ss → ss[i]? = some s → Fine (runL Ls (ss.take i)) s
  | x :: ss, Ls, 0, h, hi => by simp at hi; subst hi; exact h.1
  | x :: ss, Ls, i + 1, h, hi => fine_at (ss := ss) (Ls := stepL Ls x) (i := i) h.2 (by simpa using hi)
def StIn (w : World) (s : St) : Prop := Rd w s.A (ec s.es)
theorem elSd : EL Try.prog 34 31 3 56 := EL.of (z := .agg #[.int .i64 0, .slice none 0 0, .slice none 0 0]) Try.underlying34 (by kernel_rfl) rfl (by decide)
theorem elIm : EL Try.prog 47 52 1 8 := EL.of (z := .pointer none) Try.underlying47 (by kernel_rfl) rfl (by decide)
def ptC (Ts : List (Nat × T)) : List Value := Ts.map fun p => .pointer (some ⟨p.1, 0, none⟩)
theorem ptC_snoc (Ts : List (Nat × T)) (p : Nat × T) : ptC (Ts ++ [p]) = ptC Ts ++ [.pointer (some ⟨p.1, 0, none⟩)] := by simp [ptC]
theorem ptC_at {Ts : List (Nat × T)} {i : Nat} {p : Nat × T} (h : Ts[i]? = some p) : (ptC Ts)[i]? = some (.pointer (some ⟨p.1, 0, none⟩)) := by simp [ptC, h]
/-- The state behind some steps: the trees, what was said. -/
structure Sess (w0 w : World) (vl vo : Value) (Ts : List (Nat × T)) (ds : List Sd) : Prop where
  rl : w.ownsRow w0.heap.size 52 1 vl Ts.length (ptC Ts)
  ro : w.ownsRow w0.heap.size 31 3 vo ds.length (sdC ds)
  lo : ∀ g, vl.ownBlock = some g → vo.ownBlock ≠ some g
  im : ∀ p ∈ Ts, Imm w p.1 p.2
  fl : ∀ p ∈ Ts, ∀ x, x = p.1 ∨ x ∈ p.2.bl → vl.ownBlock ≠ some x ∧ vo.ownBlock ≠ some x
  sd : ∀ d ∈ ds, Rd w d.A1 (sc d.an) ∧ Rd w d.A2 (hc d.an)
  fs : ∀ d ∈ ds, ∀ b o, d.A1 = some ⟨b, o, none⟩ ∨ d.A2 = some ⟨b, o, none⟩ → b < w.heap.size ∧ w0.heap.size ≤ b ∧ vl.ownBlock ≠ some b ∧ vo.ownBlock ≠ some b
  ch : Ch S0 w0 w
theorem Imm.blt {w : World} {cp : Nat} {t : T} (h : Imm w cp t) {x : Nat} (hx : x = cp ∨ x ∈ t.bl) : x < w.heap.size := by
  rcases hx with rfl | hx
  · exact h.blk.lt
  · exact h.rep.lt x hx
theorem Sess.keep0 {w0 w w' : World} {vl vo : Value} {Ts : List (Nat × T)} {ds : List Sd} (s : Sess w0 w vl vo Ts ds) (hc : Ch S0 w w') : Sess w0 w' vl vo Ts ds :=
  ⟨own_keep0 s.rl hc, own_keep0 s.ro hc, s.lo, fun p hp => (s.im p hp).keep hc (fun h => h) (fun _ _ h => h), s.fl, fun d hd => ⟨(s.sd d hd).1.keep0 hc, (s.sd d hd).2.keep0 hc⟩, fun d hd b o h => ⟨Nat.lt_of_lt_of_le (s.fs d hd b o h).1 hc.size, (s.fs d hd b o h).2⟩, s.ch.trans' hc (fun _ _ h => h.elim)⟩
theorem fresh_own {w : World} {v v' : Value} {x : Nat} (hb : v'.ownBlock = v.ownBlock ∨ v'.ownBlock = some (w.heap.size + 1)) (hx : x < w.heap.size) (h : v.ownBlock ≠ some x) : v'.ownBlock ≠ some x := by
  rcases hb with hb | hb
  · rw [hb]; exact h
  · rw [hb]; intro e; have := Option.some.inj e; omega
/-- A tree more. -/
theorem Sess.addT {w0 w w' : World} {vl vo vl' : Value} {Ts : List (Nat × T)} {ds : List Sd} {cp : Nat} {t : T} (s : Sess w0 w vl vo Ts ds) (hi : Imm w cp t) (hf : ∀ x, x = cp ∨ x ∈ t.bl → vl.ownBlock ≠ some x ∧ vo.ownBlock ≠ some x) (hO : w'.ownsRow w0.heap.size 52 1 vl' (Ts.length + 1) (ptC Ts ++ [.pointer (some ⟨cp, 0, none⟩)])) (hC : Ch (fun k => vl.ownBlock = some k) w w') (hb : vl'.ownBlock = vl.ownBlock ∨ vl'.ownBlock = some (w.heap.size + 1)) : Sess w0 w' vl' vo (Ts ++ [(cp, t)]) ds := by
  have hall : ∀ p ∈ Ts ++ [(cp, t)], Imm w p.1 p.2 ∧ ∀ x, x = p.1 ∨ x ∈ p.2.bl → vl.ownBlock ≠ some x ∧ vo.ownBlock ≠ some x := fun p hp => by
    rcases List.mem_append.1 hp with hp | hp
    · exact ⟨s.im p hp, s.fl p hp⟩
    · obtain rfl := List.mem_singleton.1 hp
      exact ⟨hi, hf⟩
  have hvo : ∀ g, vo.ownBlock = some g → g < w.heap.size := fun g hg => (own_lt s.ro g hg).2
  refine ⟨by rw [List.length_append, ptC_snoc]; exact hO, own_keepS s.ro hC (fun g hg e => s.lo g e hg), fun g hg e => ?_, fun p hp => ?_, fun p hp x hx => ?_, fun d hd => ?_, fun d hd b o h => ?_, ?_⟩
  · rcases hb with hb | hb
    · exact s.lo g (hb ▸ hg) e
    · rw [hb] at hg; cases hg; have := hvo _ e; omega
  · obtain ⟨h1, h2⟩ := hall p hp
    exact h1.keep hC (fun e => (h2 _ (Or.inl rfl)).1 e) (fun x hx e => (h2 x (Or.inr hx)).1 e)
  · obtain ⟨h1, h2⟩ := hall p hp
    exact ⟨fresh_own hb (h1.blt hx) (h2 x hx).1, (h2 x hx).2⟩
  · obtain ⟨h1, h2⟩ := s.sd d hd
    exact ⟨h1.keep hC (fun b o e h => (s.fs d hd b o (Or.inl e)).2.2.1 h), h2.keep hC (fun b o e h => (s.fs d hd b o (Or.inr e)).2.2.1 h)⟩
  · obtain ⟨h1, h2, h3, h4⟩ := s.fs d hd b o h
    exact ⟨Nat.lt_of_lt_of_le h1 hC.size, h2, fresh_own hb h1 h3, h4⟩
  · exact s.ch.trans' hC (fun j hj e => by have := (own_lt s.rl j e).1; omega)
/-- Something more was said. -/
theorem Sess.addD {w0 w w' : World} {vl vo vo' : Value} {Ts : List (Nat × T)} {ds : List Sd} {d : Sd} (s : Sess w0 w vl vo Ts ds) (h1 : Rd w d.A1 (sc d.an)) (h2 : Rd w d.A2 (hc d.an)) (hf : ∀ b o, d.A1 = some ⟨b, o, none⟩ ∨ d.A2 = some ⟨b, o, none⟩ → b < w.heap.size ∧ w0.heap.size ≤ b ∧ vl.ownBlock ≠ some b ∧ vo.ownBlock ≠ some b) (hO : w'.ownsRow w0.heap.size 31 3 vo' (ds.length + 1) (sdC ds ++ d.cells)) (hC : Ch (fun k => vo.ownBlock = some k) w w') (hb : vo'.ownBlock = vo.ownBlock ∨ vo'.ownBlock = some (w.heap.size + 1)) : Sess w0 w' vl vo' Ts (ds ++ [d]) := by
  have hall : ∀ e ∈ ds ++ [d], (Rd w e.A1 (sc e.an) ∧ Rd w e.A2 (hc e.an)) ∧ ∀ b o, e.A1 = some ⟨b, o, none⟩ ∨ e.A2 = some ⟨b, o, none⟩ → b < w.heap.size ∧ w0.heap.size ≤ b ∧ vl.ownBlock ≠ some b ∧ vo.ownBlock ≠ some b := fun e he => by
    rcases List.mem_append.1 he with he | he
    · exact ⟨s.sd e he, s.fs e he⟩
    · obtain rfl := List.mem_singleton.1 he
      exact ⟨⟨h1, h2⟩, hf⟩
  have hvl : ∀ g, vl.ownBlock = some g → g < w.heap.size := fun g hg => (own_lt s.rl g hg).2
  refine ⟨own_keepS s.rl hC (fun g hg e => s.lo g hg e), by rw [List.length_append, sdC_snoc]; exact hO, fun g hg e => ?_, fun p hp => ?_, fun p hp x hx => ?_, fun e he => ?_, fun e he b o h => ?_, ?_⟩
  · rcases hb with hb | hb
    · exact s.lo g hg (hb ▸ e)
    · rw [hb] at e; cases e; have := hvl _ hg; omega
  · exact (s.im p hp).keep hC (fun e => (s.fl p hp _ (Or.inl rfl)).2 e) (fun x hx e => (s.fl p hp x (Or.inr hx)).2 e)
  · exact ⟨(s.fl p hp x hx).1, fresh_own hb ((s.im p hp).blt hx) (s.fl p hp x hx).2⟩
  · obtain ⟨⟨g1, g2⟩, g3⟩ := hall e he
    exact ⟨g1.keep hC (fun b o h k => (g3 b o (Or.inl h)).2.2.2 k), g2.keep hC (fun b o h k => (g3 b o (Or.inr h)).2.2.2 k)⟩
  · obtain ⟨g1, g2, g3, g4⟩ := (hall e he).2 b o h
    exact ⟨Nat.lt_of_lt_of_le g1 hC.size, g2, g3, fresh_own hb g1 g4⟩
  · exact s.ch.trans' hC (fun j hj e => by have := (own_lt s.ro j e).1; omega)
end Go.Proofs.Ytlppnbmaedgodaa
