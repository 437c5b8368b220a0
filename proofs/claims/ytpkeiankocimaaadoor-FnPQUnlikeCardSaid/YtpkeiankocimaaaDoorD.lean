/- WALKS: several elements taken out of a queue's heap. -/
import Derived.Test.YtpkeiankocimaaaDoorC
import Derived.Test.YtpkeiankocimaaaDoorQ
namespace Go.Proofs.YtpkeiankocimaaaDoor
open Go.RowKit
set_option linter.unusedVariables false
set_option linter.unusedSimpArgs false

theorem elIt : EL Tryd.prog 48 63 1 16 := EL.of (z := .nilIface) Tryd.underlying48 (by kernel_rfl) rfl (by decide)
theorem infoItem : (Tryd.prog.info? 63).map (fun i => (i.zero, i.size, i.bytes)) = some (some (.nilIface), 1, 16) := by kernel_rfl
theorem ev_snoc (a : List El) (x : El) : ev (a ++ [x]) = ev a ++ [en x] := by simp [ev]
theorem perm_min {b : List El} {x : El} {n : Nat} (hh : Heap (keyAt b) n) (hl : b.length = n) (hx : x = b.getD 0 (0, 0)) : ∀ y ∈ b, x.1 ≤ y.1 := by
  intro y hy
  obtain ⟨j, hj, e⟩ := List.mem_iff_getElem.1 hy
  have := heap_min hh j (by omega)
  unfold keyAt at this
  rw [← hx] at this
  have e2 : b.getD j (0, 0) = y := by simp [List.getD, hj, e]
  rw [e2] at this
  exact this

/-- What is told by get. -/
def GetR (w : World) (base qb cap g m : Nat) (vm vd vp : Value) (a : List El) (r : Ending) (w' : World) : Prop := ∃ v out b k n', r = .returned v ∧ w'.ownsRow w.heap.size 63 1 v k (ev out) ∧ QM w' base qb n' cap g vm vd vp b ∧ Heap (keyAt b) n' ∧ Out a out b m

set_option maxHeartbeats 8000000 in
set_option maxRecDepth 100000 in
theorem get_any (base qb n cap g m : Nat) (vm vd vp : Value) (a : List El) (w : World) (h : QM w base qb n cap g vm vd vp a) (hh : Heap (keyAt a) n) (hn : n ≤ 2000) (hm : m ≤ 1000) :
    Calls Tryd.prog 27 #[.pointer (some ⟨qb, 0, none⟩), .int .i64 m] w fun r w' => GetR w base qb cap g m vm vd vp a r w' ∧ Ch (fun k => k = qb ∨ k = g) w w' := by
  have hmk : (Instr.makeSlice 48 (.int .i64 0) (.int .i64 (m : Int))).run Tryd.prog w = .ok (.slice (some ⟨w.heap.size, 0, none⟩) 0 m) (w.alloc (.cells (Array.replicate m .nilIface) 63)) := make_one Tryd.underlying48 infoItem rfl .i64 .i64 0 m (Nat.zero_le _) (by omega) (by omega) w
  obtain ⟨w2, hw2⟩ : ∃ w2, w2 = w.alloc (.cells (Array.replicate m .nilIface) 63) := ⟨_, rfl⟩
  have hO2 : w2.ownsRow w.heap.size 63 1 (.slice (some ⟨w.heap.size, 0, none⟩) 0 m) 0 [] := by
    have h1 := World.ownsRow_made w (e := 63) (size := 1) (base := w.heap.size) (Array.replicate m .nilIface) m (by omega) (by unfold maxLen; omega) (by simp)
    rw [hw2]
    exact h1
  have hC2 : Ch S0 w w2 := by rw [hw2]; exact (Ch.refl _ _).alloc _
  have hQ2 := h.keep hC2 (fun h => h) (fun h => h)
  have hqb := h.blk.lt
  have hgl : g < w.heap.size := (own_lt h.row g rfl).2
  have HO2 := Lib.hid hO2
  have HC2 := Lib.hid hC2
  have HQ2 := Lib.hid hQ2
  have HH := Lib.hid hh
  have HW2 := Lib.hid hw2
  have HS2 : Hid (w2.heap.size = w.heap.size + 1) := Lib.hid (by rw [hw2]; simp)
  clear h hh hO2 hC2 hQ2 hw2
  go_enter Tryd.func27, Tryd.ntmps27
  go_wp2_with fail
  rw [← HW2.out]
  go_loopw [5, 6] (fun vo vi wr => ∃ (i n' : Nat) (out b : List El), i ≤ m ∧ n' ≤ n ∧ vi = .int .i64 i ∧ wr.ownsRow w.heap.size 63 1 vo i (ev out) ∧ QM wr base qb n' cap g vm vd vp b ∧ Heap (keyAt b) n' ∧ Out a out b i ∧ Ch (fun k => k = qb ∨ k = g) w wr) (fun _ vi _ => m - (intOf vi).toNat)
  case atStart => exact ⟨0, n, [], a, by omega, Nat.le_refl _, rfl, HO2.out, HQ2.out, HH.out, Out.start (List.Perm.refl _), HC2.out.mono (fun _ _ h => h.elim)⟩
  case round =>
    obtain ⟨i, n', out, b, hi, hn', rfl, hO, hQ, hB, hU, hC⟩ := hrel
    have q0 := hQ.blk.cell 0
    simp only [List.getElem?_toArray, List.getElem?_cons_zero] at q0
    have HO := Lib.hid hO
    have HQ := Lib.hid hQ
    have HB := Lib.hid hB
    have HU := Lib.hid hU
    have HC := Lib.hid hC
    have hsz := hC.size
    clear hO hQ hB hU hC
    by_cases hlt : i < m
    · have hlti : (i : Int) < (m : Nat) := by omega
      cases n' with
      | zero =>
        have hb0 : b = [] := List.eq_nil_of_length_eq_zero HQ.out.len
        go_wp2_with fail
        go_ret
        refine ⟨⟨_, out, b, _, 0, rfl, HO.out, HQ.out, HB.out, ?_⟩, HC.out⟩
        have := HU.out
        rw [hb0] at this ⊢
        exact this.stop (by omega)
      | succ k =>
        have hne : ((k : Int) + 1 == 0) = false := by simp; omega
        have hne2 : ¬ ((k : Int) + 1 = 0) := by omega
        go_wp2_with (first | (go_at_call 29; refine (pop_any base qb k cap g vm vd vp b _ HQ.out HB.out (by omega)).mono ?_; rintro r w4 ⟨⟨x, c, rfl, hQ4, hP4, hB4, hx4⟩, hC4⟩; have HQ4 := Lib.hid hQ4; have HP4 := Lib.hid hP4; have HB4 := Lib.hid hB4; have HX4 := Lib.hid hx4; have HC4 := Lib.hid hC4; have HOw : Hid (w4.ownsRow w.heap.size 63 1 u5 i (ev out)) := Lib.hid (own_keepS HO.out hC4 (fun gg hg e => absurd (own_lt HO.out gg hg).1 (by rcases e with e | e <;> omega))); have hs4 := hC4.size; unfold en; clear hQ4 hP4 hB4 hx4 hC4) | (at_builtin; go_loud (refine app_own elIt rfl (.tmp 19) (.tmp 22) rfl w.heap.size i u5 (ev out) rfl HOw.out [en x] rfl (by simp [en, Value.oneCell']) _ rfl rfl (by unfold maxLen; omega) (by omega) (by omega) ?_); intro v' w5 hown5 hc5 hb5; have HOx := Lib.hid hown5; have HC5 := Lib.hid hc5; clear hown5 hc5 hb5))
        go_roundw
        case rel =>
          refine ⟨i + 1, k, out ++ [x], c, by omega, by omega, by go_num, by rw [ev_snoc]; exact HOx.out, HQ4.out.keep HC5.out (fun e => absurd (own_lt HO.out qb e).1 (by omega)) (fun e => absurd (own_lt HO.out g e).1 (by omega)), HB4.out, HU.out.step HP4.out (perm_min HB.out HQ.out.len HX4.out), ?_⟩
          exact (HC.out.trans HC4.out).trans' HC5.out (fun j hj e => absurd (own_lt HO.out j e).1 (by omega))
        case measure => simp [intOf]; omega
    · have hin : ¬ (i : Int) < (m : Nat) := by omega
      have hie : i = m := by omega
      go_wp2_with fail
      go_ret
      refine ⟨⟨_, out, b, _, n', rfl, HO.out, HQ.out, HB.out, ?_⟩, HC.out⟩
      have := HU.out
      rwa [hie] at this
end Go.Proofs.YtpkeiankocimaaaDoor
