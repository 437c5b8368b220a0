/- WALKS: entries, their order; nodes in memory, made and copied. -/
import Derived.Test.YtlppnbmaedgodaaP2
import Derived.Test.YtlppnbmaedgodaaS
import Derived.Laws.OwnMore
import Derived.Deep.RegionLaw
import Derived.BigRegion
import Derived.BigQuiet
namespace Go.Proofs.Ytlppnbmaedgodaa
open Go.RowKit
set_option linter.unusedVariables false
set_option linter.unusedSimpArgs false

/-- An entry as a value. -/
def en (k v : Int) : Value := .iface 73 (.agg #[.int .i64 k, .int .i64 v])
theorem en_one (k v : Int) : (en k v).oneCell' = true := rfl
def ord (x y : Int) : Int := if x < y then -1 else if y < x then 1 else 0
theorem order_any (x y : Int) (w : World) : Calls Try.prog 62 #[.int .i64 x, .int .i64 y] w fun r w' => r = .returned (.int .i64 (ord x y)) ∧ w' = w := by
  by_cases h1 : x < y
  · have HO : Hid (ord x y = -1) := Lib.hid (by simp [ord, h1])
    go_enter Try.func62, Try.ntmps62
    go_wp2_with fail
    go_ret
    exact ⟨by rw [HO.out]; rfl, rfl⟩
  · by_cases h2 : y < x
    · have HO : Hid (ord x y = 1) := Lib.hid (by simp [ord, h1, h2])
      go_enter Try.func62, Try.ntmps62
      go_wp2_with fail
      go_ret
      exact ⟨by rw [HO.out]; rfl, rfl⟩
    · have HO : Hid (ord x y = 0) := Lib.hid (by simp [ord, h1, h2])
      go_enter Try.func62, Try.ntmps62
      go_wp2_with fail
      go_ret
      exact ⟨by rw [HO.out]; rfl, rfl⟩
theorem compare_any (k v k2 v2 : Int) (w : World) : Calls Try.prog 61 #[.agg #[.int .i64 k, .int .i64 v], en k2 v2] w fun r w' => r = .returned (.int .i64 (ord k k2)) ∧ Ch S0 w w' := by
  have hB := Blk.new w #[.int .i64 k, .int .i64 v] 73
  have c0 := hB.cell 0
  simp only [List.getElem?_toArray, List.getElem?_cons_zero] at c0
  have hty : ∀ w, (Instr.typeAssert (.iface 73 (.agg #[.int .i64 k2, .int .i64 v2])) 66 73 false).run Try.prog w = .ok (.agg #[.int .i64 k2, .int .i64 v2]) w := fun _ => by kernel_rfl
  have hf1 : ∀ w, (Instr.field 73 (.agg #[.int .i64 k2, .int .i64 v2]) 0).run Try.prog w = .ok (.agg #[.int .i64 k2, .int .i64 v2]) w := fun _ => by kernel_rfl
  have hf2 : ∀ w, (Instr.field 38 (.agg #[.int .i64 k2, .int .i64 v2]) 0).run Try.prog w = .ok (.int .i64 k2) w := fun _ => by kernel_rfl
  unfold en
  clear hB
  go_enter Try.func61, Try.ntmps61
  go_wp2_with fail
  go_region_law (go_simp; go_at_call 62; (with_reducible refine (order_any k k2 _).mono ?_); rintro r w4 ⟨rfl, rfl⟩)
  all_goals go_wp2_with fail
  all_goals go_ret
  all_goals exact ⟨rfl, ((Ch.refl _ _).alloc _).drew⟩
/-- Where a node lies, or nil. -/
def ad (o : Option Nat) : Option Addr := o.map fun a => ⟨a, 0, none⟩
/-- The cells of a node. -/
def ncell (b : Int) (o1 o2 : Option Nat) (k v : Int) : Array Value := #[.int .i8 b, .pointer (ad o1), .pointer (ad o2), en k v]
/-- A tree in memory. -/
def Rep (w : World) : T → Prop
  | .nil => True
  | .node a b l r k v => Blk w a (ncell b l.adr r.adr k v) ∧ Rep w l ∧ Rep w r
theorem Rep.keep {S : Nat → Prop} {w w' : World} (hc : Ch S w w') : ∀ {t : T}, Rep w t → (∀ x ∈ t.bl, ¬ S x) → Rep w' t
  | .nil, _, _ => trivial
  | .node a b l r k v, ⟨h1, h2, h3⟩, hs => ⟨h1.keep hc (hs a (by simp [T.bl])), Rep.keep hc h2 (fun x hx => hs x (by simp [T.bl, hx])), Rep.keep hc h3 (fun x hx => hs x (by simp [T.bl, hx]))⟩
theorem Rep.lt {w : World} : ∀ {t : T}, Rep w t → ∀ x ∈ t.bl, x < w.heap.size
  | .nil, _, x, hx => by simp [T.bl] at hx
  | .node a b l r k v, ⟨h1, h2, h3⟩, x, hx => by
    simp only [T.bl, List.mem_cons, List.mem_append] at hx
    rcases hx with rfl | hx | hx
    · exact h1.lt
    · exact Rep.lt h2 x hx
    · exact Rep.lt h3 x hx
set_option maxRecDepth 100000 in
theorem new_any (k v : Int) (w : World) : Calls Try.prog 33 #[en k v] w fun r w' => r = .returned (.pointer (some ⟨w.heap.size, 0, none⟩)) ∧ Blk w' w.heap.size (ncell 0 none none k v) ∧ Ch S0 w w' := by
  have HB := Lib.hid (Blk.new w #[.int .i8 0, .pointer none, .pointer none, .iface 73 (.agg #[.int .i64 k, .int .i64 v])] 68)
  unfold en
  go_enter Try.func33, Try.ntmps33
  go_wp2_with fail
  go_ret
  exact ⟨rfl, HB.out, (Ch.refl _ _).alloc _⟩
set_option maxRecDepth 100000 in
theorem newnil_any (w : World) : Calls Try.prog 33 #[.nilIface] w fun r w' => r = .returned (.pointer (some ⟨w.heap.size, 0, none⟩)) ∧ Blk w' w.heap.size #[.int .i8 0, .pointer none, .pointer none, .nilIface] ∧ Ch S0 w w' := by
  have HB := Lib.hid (Blk.new w #[.int .i8 0, .pointer none, .pointer none, .nilIface] 68)
  go_enter Try.func33, Try.ntmps33
  go_wp2_with fail
  go_ret
  exact ⟨rfl, HB.out, (Ch.refl _ _).alloc _⟩
set_option maxHeartbeats 4000000 in
set_option maxRecDepth 100000 in
theorem copy_any (a : Nat) (b : Int) (o1 o2 : Option Nat) (k v : Int) (w : World) (h : Blk w a (ncell b o1 o2 k v)) :
    Calls Try.prog 32 #[.pointer (some ⟨a, 0, none⟩)] w fun r w' => r = .returned (.pointer (some ⟨w.heap.size, 0, none⟩)) ∧ Blk w' w.heap.size (ncell b o1 o2 k v) ∧ Ch S0 w w' := by
  have c0 := h.cell 0
  have c1 := h.cell 1
  have c2 := h.cell 2
  have c3 := h.cell 3
  obtain ⟨p1, hp1⟩ : ∃ p, ad o1 = p := ⟨_, rfl⟩
  obtain ⟨p2, hp2⟩ : ∃ p, ad o2 = p := ⟨_, rfl⟩
  have HB := Lib.hid (Blk.new w #[.int .i8 b, .pointer p1, .pointer p2, .iface 73 (.agg #[.int .i64 k, .int .i64 v])] 68)
  have HE : Hid (ncell b o1 o2 k v = #[.int .i8 b, .pointer p1, .pointer p2, .iface 73 (.agg #[.int .i64 k, .int .i64 v])]) := Lib.hid (by unfold ncell; rw [hp1, hp2]; rfl)
  simp only [ncell, en, hp1, hp2, List.getElem?_toArray, List.getElem?_cons_zero, List.getElem?_cons_succ] at c0 c1 c2 c3
  clear hp1 hp2 h
  go_enter Try.func32, Try.ntmps32
  go_wp2_with fail
  go_region
  all_goals go_wp2_with fail
  all_goals go_ret
  all_goals exact ⟨rfl, by rw [HE.out]; exact HB.out, ((Ch.refl _ _).alloc _).drew⟩
def nrm (x y : Int) : Int := if x < y then 1 else if y < x then 0 else -1
theorem norm_any (x y : Int) (w : World) : Calls Try.prog 35 #[.int .i64 (ord x y)] w fun r w' => r = .returned (.int .i64 (nrm x y)) ∧ w' = w := by
  by_cases h1 : x < y
  · have HO : Hid (nrm x y = 1) := Lib.hid (by simp [nrm, h1])
    rw [show ord x y = -1 by simp [ord, h1]]
    go_enter Try.func35, Try.ntmps35
    go_wp2_with fail
    go_ret
    exact ⟨by rw [HO.out]; rfl, rfl⟩
  · by_cases h2 : y < x
    · have HO : Hid (nrm x y = 0) := Lib.hid (by simp [nrm, h1, h2])
      rw [show ord x y = 1 by simp [ord, h1, h2]]
      go_enter Try.func35, Try.ntmps35
      go_wp2_with fail
      go_ret
      exact ⟨by rw [HO.out]; rfl, rfl⟩
    · have HO : Hid (nrm x y = -1) := Lib.hid (by simp [nrm, h1, h2])
      rw [show ord x y = 0 by simp [ord, h1, h2]]
      go_enter Try.func35, Try.ntmps35
      go_wp2_with fail
      go_ret
      exact ⟨by rw [HO.out]; rfl, rfl⟩
theorem ifb_any (c : Bool) (w : World) : Calls Try.prog 38 #[.bool c] w fun r w' => r = .returned (.int .i64 (if c then 1 else 0)) ∧ w' = w := by
  cases c
  all_goals go_enter Try.func38, Try.ntmps38
  all_goals go_wp2_with fail
  all_goals go_ret
  all_goals exact ⟨rfl, rfl⟩
theorem opp0 (w : World) : Calls Try.prog 43 #[.int .i64 0] w fun r w' => r = .returned (.int .i64 1) ∧ w' = w := by
  go_enter Try.func43, Try.ntmps43
  go_wp2_with fail
  go_ret
  exact ⟨rfl, rfl⟩
theorem opp1 (w : World) : Calls Try.prog 43 #[.int .i64 1] w fun r w' => r = .returned (.int .i64 0) ∧ w' = w := by
  go_enter Try.func43, Try.ntmps43
  go_wp2_with fail
  go_ret
  exact ⟨rfl, rfl⟩
end Go.Proofs.Ytlppnbmaedgodaa
