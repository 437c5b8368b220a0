/- WALKS: elements in memory, their order; ranges of a row exchanged. -/
import Derived.Test.YtbfcnimebdoagaaMP
import Derived.Test.YtbfcnimebdoagaaS
import Derived.Laws.OwnMore
import Derived.Deep.RegionLaw
import Derived.BigRegion
namespace Go.Proofs.Ytbfcnimebdoagaa
open Go.RowKit
set_option linter.unusedVariables false
set_option linter.unusedSimpArgs false

/-- An element as a value. -/
def en (p : El) : Value := .iface 74 (.agg #[.int .i64 p.1, .int .i64 p.2])
def ev (a : List El) : List Value := a.map en
@[simp] theorem ev_length (a : List El) : (ev a).length = a.length := by simp [ev]
theorem ev_get {a : List El} {j : Nat} {x : El} (h : a[j]? = some x) : (ev a)[j]? = some (en x) := by simp [ev, h]
theorem ev_one (a : List El) : ∀ u ∈ ev a, u.oneCell' = true := by
  intro u hu
  simp only [ev, List.mem_map] at hu
  obtain ⟨x, _, rfl⟩ := hu
  rfl
def ord (x y : Int) : Int := if x < y then -1 else if y < x then 1 else 0
theorem ord_neg {x y : Int} : ord x y < 0 ↔ x < y := by
  unfold ord
  split
  · simp; assumption
  · split <;> simp <;> omega
theorem ord_le {x y : Int} : ord x y ≤ 0 ↔ x ≤ y := by
  unfold ord
  split
  · simp; omega
  · split <;> simp <;> omega

theorem order_any (x y : Int) (w : World) : Calls Try.prog 96 #[.int .i64 x, .int .i64 y] w fun r w' => r = .returned (.int .i64 (ord x y)) ∧ w' = w := by
  by_cases h1 : x < y
  · have HO : Hid (ord x y = -1) := Lib.hid (by simp [ord, h1])
    go_enter Try.func96, Try.ntmps96
    go_wp2_with fail
    go_ret
    exact ⟨by rw [HO.out]; rfl, rfl⟩
  · by_cases h2 : y < x
    · have HO : Hid (ord x y = 1) := Lib.hid (by simp [ord, h1, h2])
      go_enter Try.func96, Try.ntmps96
      go_wp2_with fail
      go_ret
      exact ⟨by rw [HO.out]; rfl, rfl⟩
    · have HO : Hid (ord x y = 0) := Lib.hid (by simp [ord, h1, h2])
      go_enter Try.func96, Try.ntmps96
      go_wp2_with fail
      go_ret
      exact ⟨by rw [HO.out]; rfl, rfl⟩

theorem compare_any (p q : El) (w : World) : Calls Try.prog 95 #[.agg #[.int .i64 p.1, .int .i64 p.2], en q] w fun r w' => r = .returned (.int .i64 (ord p.1 q.1)) ∧ Ch S0 w w' := by
  have hB := Blk.new w #[.int .i64 p.1, .int .i64 p.2] 74
  have c0 := hB.cell 0
  simp only [List.getElem?_toArray, List.getElem?_cons_zero] at c0
  have hty : ∀ w, (Instr.typeAssert (.iface 74 (.agg #[.int .i64 q.1, .int .i64 q.2])) 72 74 false).run Try.prog w = .ok (.agg #[.int .i64 q.1, .int .i64 q.2]) w := fun _ => by kernel_rfl
  have hf1 : ∀ w, (Instr.field 74 (.agg #[.int .i64 q.1, .int .i64 q.2]) 0).run Try.prog w = .ok (.agg #[.int .i64 q.1, .int .i64 q.2]) w := fun _ => by kernel_rfl
  have hf2 : ∀ w, (Instr.field 48 (.agg #[.int .i64 q.1, .int .i64 q.2]) 0).run Try.prog w = .ok (.int .i64 q.1) w := fun _ => by kernel_rfl
  unfold en
  clear hB
  go_enter Try.func95, Try.ntmps95
  go_wp2_with fail
  go_region_law (go_simp; go_at_call 96; (with_reducible refine (order_any p.1 q.1 _).mono ?_); rintro r w4 ⟨rfl, rfl⟩)
  all_goals go_wp2_with fail
  all_goals go_ret
  all_goals exact ⟨rfl, ((Ch.refl _ _).alloc _).drew⟩

/-- A row of elements, one's own. -/
def RW (w : World) (base g n cap : Nat) (f : Nat → El) : Prop := w.ownsRow base 72 1 (.slice (some ⟨g, 0, none⟩) n cap) n (ev (lst n f))
theorem RW.keep {S : Nat → Prop} {w w' : World} {base g n cap : Nat} {f : Nat → El} (h : RW w base g n cap f) (hc : Ch S w w') (hs : ¬ S g) : RW w' base g n cap f := own_keepS h hc (fun k hk => by simp [Value.ownBlock] at hk; rw [← hk]; exact hs)
theorem RW.cell {w : World} {base g n cap i : Nat} {f : Nat → El} (h : RW w base g n cap f) (hi : i < n) : w.cell? ⟨g, i, none⟩ = some (en (f i)) := (World.ownsRow.cellAt h i (by simpa using hi)).trans (ev_get (lst_at f hi))
theorem RW.set {w : World} {base g n cap i : Nat} {f : Nat → El} (h : RW w base g n cap f) (hi : i < n) (e : El) : RW (w.setCell ⟨g, i, none⟩ (en e)) base g n cap (updE f i e) := by
  have h1 := (World.ownsRow.stored h i (en e)).1
  unfold RW
  have e1 : (ev (lst n f)).set i (en e) = ev (lst n (updE f i e)) := by
    rw [← lst_set f e hi]
    simp [ev, List.map_set]
  rw [← e1]
  exact h1
theorem RW.congr {w : World} {base g n cap : Nat} {f f' : Nat → El} (h : RW w base g n cap f) (e : ∀ x, x < n → f' x = f x) : RW w base g n cap f' := by
  unfold RW at h ⊢
  rw [lst_congr e]
  exact h

set_option maxHeartbeats 8000000 in
set_option maxRecDepth 100000 in
theorem symSwap_any (base g n cap s1 s2 e : Nat) (f : Nat → El) (w : World) (h : RW w base g n cap f) (h1 : s1 + e ≤ s2) (h2 : s2 + e ≤ n) (hn : n ≤ 1000000) :
    Calls Try.prog 73 #[.slice (some ⟨g, 0, none⟩) n cap, .int .i64 s1, .int .i64 s2, .int .i64 e] w fun r w' => r = .returned (.tuple #[]) ∧ RW w' base g n cap (swpF f s1 s2 e) ∧ Ch (S1 g) w w' := by
  have HH := Lib.hid h
  clear h
  go_enter Try.func73, Try.ntmps73
  go_wp2_with fail
  go_loopw [8] (fun vi wr => ∃ i : Nat, i ≤ e ∧ vi = .int .i64 i ∧ RW wr base g n cap (swpF f s1 s2 i) ∧ Ch (S1 g) w wr) (fun vi _ => e - (intOf vi).toNat)
  case atStart => exact ⟨0, by omega, rfl, by rw [swpF_zero]; exact HH.out, Ch.refl _ _⟩
  case round =>
    obtain ⟨i, hi, rfl, hR, hC⟩ := hrel
    have HR := Lib.hid hR
    have HC := Lib.hid hC
    clear hR hC
    by_cases hlt : i < e
    · have hlti : (i : Int) < (e : Nat) := by omega
      obtain ⟨a, ha⟩ : ∃ a, a = s1 + i := ⟨_, rfl⟩
      obtain ⟨b, hb⟩ : ∃ b, b = s2 + i := ⟨_, rfl⟩
      have hai : (s1 : Int) + (i : Int) = (a : Nat) := by omega
      have hbi : (s2 : Int) + (i : Int) = (b : Nat) := by omega
      have hab : a < b := by omega
      have hbn : b < n := by omega
      have ca := HR.out.cell (i := a) (by omega)
      have cb := HR.out.cell (i := b) hbn
      have fa := World.ownsRow.frozenAt HR.out a
      have fb := World.ownsRow.frozenAt HR.out b
      obtain ⟨x, hx⟩ : ∃ x, swpF f s1 s2 i a = x := ⟨_, rfl⟩
      obtain ⟨y, hy⟩ : ∃ y, swpF f s1 s2 i b = y := ⟨_, rfl⟩
      rw [hx] at ca
      rw [hy] at cb
      have h3 := HR.out.set (i := a) (by omega) y
      have h4 := h3.set (i := b) hbn x
      have f2 := World.ownsRow.frozenAt h3 b
      have c2 := h3.cell (i := b) hbn
      have e2 : updE (swpF f s1 s2 i) a y b = y := by unfold updE; rw [if_neg (by omega), hy]
      rw [e2] at c2
      have e4 : updE (updE (swpF f s1 s2 i) a y) b x = swpF f s1 s2 (i + 1) := by
        rw [swpF_succ f s1 s2 i (by omega), swap1, ← ha, ← hb, hx, hy]
      rw [e4] at h4
      have H4 := Lib.hid h4
      have HC4 : Hid (Ch (S1 g) w ((wr.setCell ⟨g, a, none⟩ (en y)).setCell ⟨g, b, none⟩ (en x))) := Lib.hid ((HC.out.setCell ⟨g, a, none⟩ (fun _ => rfl) _).setCell ⟨g, b, none⟩ (fun _ => rfl) _)
      have ha0 : (0 : Int) ≤ (a : Nat) := by omega
      have han : (a : Int) < (n : Nat) := by omega
      have hb0 : (0 : Int) ≤ (b : Nat) := by omega
      have hbn' : (b : Int) < (n : Nat) := by omega
      clear h3 h4 e2 e4 ha hb hx hy
      unfold en at ca cb c2 H4 HC4
      obtain ⟨vx, hvx⟩ : ∃ v : Value, v = .agg #[.int .i64 x.1, .int .i64 x.2] := ⟨_, rfl⟩
      obtain ⟨vy, hvy⟩ : ∃ v : Value, v = .agg #[.int .i64 y.1, .int .i64 y.2] := ⟨_, rfl⟩
      rw [← hvx] at ca H4 HC4
      rw [← hvy] at cb c2 H4 HC4
      clear hvx hvy
      go_wp2_with fail
      go_region
      all_goals go_wp2_with fail
      go_roundw
      case rel => exact ⟨i + 1, by omega, by go_num, H4.out, HC4.out.drew⟩
      case measure => simp [intOf]; omega
    · have hin : ¬ (i : Int) < (e : Nat) := by omega
      have hie : i = e := by omega
      go_wp2_with fail
      refine bodyPost_end (results_none rfl _ _ _) rfl ?_
      exact ⟨rfl, by rw [← hie]; exact HR.out, HC.out⟩
end Go.Proofs.Ytbfcnimebdoagaa
