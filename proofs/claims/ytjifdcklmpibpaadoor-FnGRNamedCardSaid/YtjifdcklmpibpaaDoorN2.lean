/- WALKS: dgNamed. -/
import Derived.Test.YtjifdcklmpibpaaDoorN1
namespace Go.Proofs.YtjifdcklmpibpaaDoor
open Go.RowKit
set_option linter.unusedVariables false
set_option linter.unusedSimpArgs false

def nam (t m : Int) (x : Int) : Int := x * t + m
theorem nam_inj {t m : Int} (ht : 1 ≤ t) (x y : Int) (h : nam t m x = nam t m y) : x = y := by
  unfold nam at h
  have h1 : x * t = y * t := by omega
  exact Int.eq_of_mul_eq_mul_right (by omega) h1
theorem mul_bd {x t : Int} (hx : 0 ≤ x) (hx2 : x ≤ 12) (ht : 1 ≤ t) (ht2 : t ≤ 9) : 0 ≤ x * t ∧ x * t ≤ 108 := by
  refine ⟨Int.mul_nonneg hx (by omega), ?_⟩
  have := Int.mul_le_mul hx2 ht2 (by omega) (by omega : (0 : Int) ≤ 12)
  omega
def namE (t m : Int) (xs : List (Int × Int)) : List (Int × Int) := xs.map fun x => (nam t m x.1, nam t m x.2)

set_option maxRecDepth 100000 in
theorem named_any (n cap : Nat) (A : Option Addr) (xs : List (Int × Int)) (t m : Int) (w : World) (hn : xs.length = n) (hn1 : n ≤ 1000) (hA : Rd w A (ev xs)) (hr : ∀ x ∈ xs, inR x = true) (ht : 1 ≤ t) (ht2 : t ≤ 9) (hm : 0 ≤ m) (hm2 : m ≤ 255) :
    Calls Tryd.prog 13 #[.slice A n cap, .int .i64 t, .int .i64 m] w fun r w' => ∃ v, r = .returned v ∧ w'.ownsRow w.heap.size 24 2 v n (ev (namE t m xs)) ∧ Ch S0 w w' := by
  have HA := Lib.hid hA
  have HN := Lib.hid hn
  have HR := Lib.hid hr
  clear hA hn hr
  go_enter Tryd.func13, Tryd.ntmps13
  go_wp2_with fail
  go_loopw [7, 12] (fun vo vi wr => ∃ i : Nat, i ≤ n ∧ vi = .int .i64 i ∧ wr.ownsRow w.heap.size 24 2 vo i (ev (namE t m (xs.take i))) ∧ Ch S0 w wr) (fun _ vi _ => n - (intOf vi).toNat)
  case atStart => exact ⟨0, by omega, rfl, World.ownsRow_nil _ _ _ _, Ch.refl _ _⟩
  case round =>
    obtain ⟨i, hi, rfl, hO, hC⟩ := hrel
    have HO := Lib.hid hO
    have HC := Lib.hid hC
    clear hO hC
    by_cases hlt : i < n
    · have hlti : (i : Int) < (n : Nat) := by omega
      obtain ⟨x, hx⟩ : ∃ x, xs[i]? = some x := ⟨xs[i]'(by have := HN.out; omega), by simp [HN.out, hlt]⟩
      obtain ⟨q, o, hAe, c0, c1⟩ := rd_edge (HA.out.keep0 HC.out) hx
      subst hAe
      have hin := HR.out x (List.mem_of_getElem? hx)
      obtain ⟨x1, x2⟩ := x
      simp only [inR, decide_eq_true_eq] at hin
      simp only at c0 c1
      obtain ⟨b1, b2⟩ := mul_bd hin.1 hin.2.1 ht ht2
      obtain ⟨b3, b4⟩ := mul_bd hin.2.2.1 hin.2.2.2 ht ht2
      have hts : ev (namE t m (xs.take (i + 1))) = ev (namE t m (xs.take i)) ++ [.int .i64 (x1 * t + m), .int .i64 (x2 * t + m)] := by
        rw [List.take_add_one, hx]
        simp [namE, ev, nam]
      have HT := Lib.hid hts
      have hsz := HC.out.size
      clear hts hx hin
      go_wp2_with (at_builtin; go_loud (refine app_own elEdge rfl (.tmp 16) (.tmp 30) rfl w.heap.size i u7 (ev (namE t m (xs.take i))) rfl (own_keep0 HO.out ((Ch.refl S0 wr).alloc _)) [.int .i64 (x1 * t + m), .int .i64 (x2 * t + m)] rfl (by simp [Value.oneCell']) (wr.heap.size + 1) (by simp) rfl (by unfold maxLen; omega) (by omega) (by simp; omega) ?_); intro v' w4 hown4 hc4 hb4; have HOw := Lib.hid hown4; have HC4 := Lib.hid hc4; clear hown4 hc4 hb4)
      go_roundw
      case rel => exact ⟨i + 1, by omega, by go_num, by rw [HT.out]; exact HOw.out, (HC.out.alloc _).trans' HC4.out (fun j hj hs => absurd (own_lt HO.out j hs).1 (by omega))⟩
      case measure => simp [intOf]; omega
    · have hin : ¬ (i : Int) < (n : Nat) := by omega
      have hie : i = n := by omega
      go_wp2_with fail
      go_ret
      refine ⟨_, rfl, ?_, HC.out⟩
      have := HO.out
      rw [hie, ← HN.out, List.take_length] at this
      rw [← HN.out]
      exact this
end Go.Proofs.YtjifdcklmpibpaaDoor
