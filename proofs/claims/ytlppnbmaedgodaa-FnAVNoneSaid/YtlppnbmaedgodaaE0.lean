/- MEMORY: a tree and the way down in it. -/
import Derived.Test.YtlppnbmaedgodaaC
namespace Go.Proofs.Ytlppnbmaedgodaa
open Go.RowKit
set_option linter.unusedVariables false
set_option linter.unusedSimpArgs false

def top : List Fr → Option Nat → Option Nat
  | [], o => o
  | f :: _, _ => some f.a
def Fr.cells (f : Fr) (o : Option Nat) : Array Value := if f.d then ncell f.b f.sib.adr o f.k f.v else ncell f.b o f.sib.adr f.k f.v
/-- The nodes above a place, in memory; the place holds o. -/
def Frs (w : World) : List Fr → Option Nat → Prop
  | [], _ => True
  | f :: fs, o => Blk w f.a (f.cells (top fs o)) ∧ Rep w f.sib ∧ Frs w fs o
theorem zip_adr (fs : List Fr) (t : T) : (zip fs t).adr = top fs t.adr := by
  cases fs with
  | nil => rfl
  | cons f fs => unfold zip Fr.fill top; cases f.d <;> rfl
theorem rep_zip {w : World} : ∀ {fs : List Fr} {t : T}, Rep w (zip fs t) ↔ Frs w fs t.adr ∧ Rep w t
  | [], t => by simp [zip, Frs]
  | f :: fs, t => by
    have ih := rep_zip (w := w) (fs := fs) (t := t)
    unfold zip Fr.fill Frs Fr.cells
    cases f.d <;> simp only [Bool.false_eq_true, if_true, if_false, Rep, zip_adr, ih]
    · constructor
      · rintro ⟨a, ⟨b, c⟩, d⟩; exact ⟨⟨a, d, b⟩, c⟩
      · rintro ⟨⟨a, d, b⟩, c⟩; exact ⟨a, ⟨b, c⟩, d⟩
    · constructor
      · rintro ⟨a, b, c, d⟩; exact ⟨⟨a, b, c⟩, d⟩
      · rintro ⟨⟨a, b, c⟩, d⟩; exact ⟨a, b, c, d⟩
theorem frs_snoc {w : World} : ∀ {fs : List Fr} {f : Fr} {o : Option Nat}, Frs w (fs ++ [f]) o ↔ Frs w fs (some f.a) ∧ Blk w f.a (f.cells o) ∧ Rep w f.sib
  | [], f, o => by simp [Frs, top]
  | g :: fs, f, o => by
    have ih := frs_snoc (w := w) (fs := fs) (f := f) (o := o)
    have e : top (fs ++ [f]) o = top fs (some f.a) := by cases fs <;> rfl
    simp only [List.cons_append, Frs, e, ih]
    constructor
    · rintro ⟨a, b, c, d⟩; exact ⟨⟨a, b, c⟩, d⟩
    · rintro ⟨⟨a, b, c⟩, d⟩; exact ⟨a, b, c, d⟩
theorem Frs.keep {S : Nat → Prop} {w w' : World} (hc : Ch S w w') : ∀ {fs : List Fr} {o : Option Nat}, Frs w fs o → (∀ x ∈ frBl fs, ¬ S x) → Frs w' fs o
  | [], _, _, _ => trivial
  | f :: fs, o, ⟨h1, h2, h3⟩, hs => ⟨h1.keep hc (hs f.a (by simp [frBl])), h2.keep hc (fun x hx => hs x (by simp [frBl, hx])), Frs.keep hc h3 (fun x hx => hs x (by simp [frBl, hx]))⟩
def lastA (D : Nat) : List Fr → Nat
  | [] => D
  | [f] => f.a
  | _ :: f :: fs => lastA D (f :: fs)
theorem lastA_snoc (D : Nat) : ∀ (fs : List Fr) (f : Fr), lastA D (fs ++ [f]) = f.a
  | [], f => rfl
  | [g], f => rfl
  | g :: h :: fs, f => lastA_snoc D (h :: fs) f
/-- A node as a frame, and back. -/
theorem fill_node_r (a : Nat) (b : Int) (l r : T) (k v : Int) : (Fr.mk a b true l k v).fill r = .node a b l r k v := rfl
theorem fill_node_l (a : Nat) (b : Int) (l r : T) (k v : Int) : (Fr.mk a b false r k v).fill l = .node a b l r k v := rfl
/-- A tree with its owner. -/
structure Imm (w : World) (cp : Nat) (t : T) : Prop where
  blk : Blk w cp #[.pointer (ad t.adr), .int .u64 (t.toL.length : Nat), .int .i8 0, .pointer none, .pointer none, .nilIface]
  rep : Rep w t
  nd : t.bl.Nodup
  avl : t.Avl
  ord : Ord t.toL
  out : cp ∉ t.bl
  few : t.toL.length ≤ 100000
theorem Imm.keep {S : Nat → Prop} {w w' : World} {cp : Nat} {t : T} (h : Imm w cp t) (hc : Ch S w w') (h1 : ¬ S cp) (h2 : ∀ x ∈ t.bl, ¬ S x) : Imm w' cp t :=
  ⟨h.blk.keep hc h1, h.rep.keep hc h2, h.nd, h.avl, h.ord, h.out, h.few⟩
/-- What an insertion returns. -/
def oldE (k : Int) (o : Option Int) : Value := match o with | none => .nilIface | some v => en k v
/-- What an insertion may write: the owner, the root, what is new. -/
def SI (cp : Nat) (o : Option Nat) : Nat → Prop := fun k => k = cp ∨ o = some k
theorem ad_inj {o o' : Option Nat} (h : ad o = ad o') : o = o' := by
  cases o <;> cases o' <;> simp_all [ad]
/-- Memory tells the tree. -/
theorem rep_one {w : World} : ∀ {t t' : T}, Rep w t → Rep w t' → t.adr = t'.adr → t = t'
  | .nil, .nil, _, _, _ => rfl
  | .nil, .node .., _, _, h => by cases h
  | .node .., .nil, _, _, h => by cases h
  | .node a b l r k v, .node a' b' l' r' k' v', ⟨h1, h2, h3⟩, ⟨g1, g2, g3⟩, h => by
    cases h
    obtain ⟨T1, h1⟩ := h1
    obtain ⟨T2, g1⟩ := g1
    rw [h1] at g1
    simp only [ncell, en, Option.some.injEq, Obj.cells.injEq, Array.mk.injEq, List.cons.injEq, Value.int.injEq, Value.pointer.injEq, Value.iface.injEq, Value.agg.injEq, true_and, and_true] at g1
    obtain ⟨⟨e1, e2, e3, e4, e5⟩, _⟩ := g1
    rw [rep_one h2 g2 (ad_inj e2), rep_one h3 g3 (ad_inj e3), e1, e4, e5]
def OldB (w : World) (cp : Nat) (x : Nat) : Prop := ∃ t0, Imm w cp t0 ∧ x ∈ t0.bl
theorem OldB.of {w : World} {cp x : Nat} {t : T} (h : OldB w cp x) (ht : Imm w cp t) : x ∈ t.bl := by
  obtain ⟨t0, h0, hx⟩ := h
  obtain ⟨T1, h1⟩ := h0.blk
  obtain ⟨T2, h2⟩ := ht.blk
  rw [h1] at h2
  simp only [Option.some.injEq, Obj.cells.injEq, Array.mk.injEq, List.cons.injEq, Value.pointer.injEq] at h2
  rw [← rep_one h0.rep ht.rep (ad_inj h2.1.1)]
  exact hx
/-- Behind an insertion. -/
def InsR (w : World) (cp : Nat) (t : T) (k v : Int) (r : Ending) (w' : World) : Prop :=
  ∃ t', r = .returned (oldE k (lget k t.toL)) ∧ Imm w' cp t' ∧ t'.toL = lins k v t.toL ∧ Ch (SI cp t.adr) w w' ∧ (∀ a, t'.adr = some a → t.adr = some a ∨ w.heap.size ≤ a) ∧ (∀ x ∈ t'.bl, x ∈ t.bl ∨ w.heap.size ≤ x)
end Go.Proofs.Ytlppnbmaedgodaa
