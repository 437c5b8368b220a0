/- WALKS: MGMerge; the Keys of elements. -/
import Derived.Test.YtbfcnimebdoagaaMH
import Derived.Test.YtbfcnimebdoagaaI
namespace Go.Proofs.Ytbfcnimebdoagaa
open Go.RowKit
set_option linter.unusedVariables false
set_option linter.unusedSimpArgs false

theorem elIt : EL Try.prog 40 48 2 16 := EL.of (z := .agg #[.int .i64 0, .int .i64 0]) Try.underlying40 (by kernel_rfl) rfl (by decide)
def pv (a : List El) : List Value := a.flatMap fun p => [.int .i64 p.1, .int .i64 p.2]
theorem pv_snoc (a : List El) (x : El) : pv (a ++ [x]) = pv a ++ [.int .i64 x.1, .int .i64 x.2] := by simp [pv]
theorem pv_len : ∀ (a : List El), (pv a).length = a.length * 2
  | [] => rfl
  | x :: a => by
    have e : pv (x :: a) = .int .i64 x.1 :: .int .i64 x.2 :: pv a := by simp [pv]
    rw [e, List.length_cons, List.length_cons, pv_len a, List.length_cons]
    omega
theorem pv_at : ∀ (a : List El) (j : Nat) (x : El), a[j]? = some x → (pv a)[j * 2]? = some (.int .i64 x.1) ∧ (pv a)[j * 2 + 1]? = some (.int .i64 x.2)
  | [], j, x, h => by simp at h
  | y :: a, 0, x, h => by simp at h; subst h; simp [pv]
  | y :: a, j + 1, x, h => by
    have ih := pv_at a j x (by simpa using h)
    have e : pv (y :: a) = .int .i64 y.1 :: .int .i64 y.2 :: pv a := by simp [pv]
    rw [e, show (j + 1) * 2 = j * 2 + 1 + 1 by omega]
    exact ih
theorem rd_pv {w : World} {A : Option Addr} {a : List El} {j : Nat} {x : El} (h : Rd w A (pv a)) (hj : a[j]? = some x) : ∃ b o, A = some ⟨b, o, none⟩ ∧ w.cell? ⟨b, o + j * 2, none⟩ = some (.int .i64 x.1) ∧ w.cell? ⟨b, o + j * 2 + 1, none⟩ = some (.int .i64 x.2) := by
  obtain ⟨h0, h1⟩ := pv_at a j x hj
  obtain ⟨b, o, e, c0⟩ := h _ _ h0
  obtain ⟨b', o', e', c1⟩ := h _ _ h1
  rw [e] at e'
  cases e'
  exact ⟨b, o, e, c0, c1⟩
theorem ev_snoc (a : List El) (x : El) : ev (a ++ [x]) = ev a ++ [en x] := by simp [ev]
theorem take_one {α : Type} {a : List α} {i : Nat} {x : α} (h : a[i]? = some x) : a.take (i + 1) = a.take i ++ [x] := by rw [List.take_add_one, h]; rfl

set_option maxRecDepth 100000 in
set_option maxHeartbeats 4000000 in
theorem mgItems_any (A : Option Addr) (n c : Nat) (us : List El) (w : World) (hl : us.length = n) (hn : n ≤ 100000) (hA : Rd w A (pv us)) :
    Calls Try.prog 32 #[.slice A n c] w fun r w' => (∃ v, r = .returned v ∧ w'.ownsRow w.heap.size 72 1 v n (ev us)) ∧ Ch S0 w w' := by
  have hmk : (Instr.makeSlice 68 (.int .i64 0) (.int .i64 (n : Int))).run Try.prog w = .ok (.slice (some ⟨w.heap.size, 0, none⟩) 0 n) (w.alloc (.cells (Array.replicate n .nilIface) 72)) := make_one Try.underlying68 infoC rfl .i64 .i64 0 n (Nat.zero_le _) (by omega) (by omega) w
  obtain ⟨w2, hw2⟩ : ∃ w2, w2 = w.alloc (.cells (Array.replicate n .nilIface) 72) := ⟨_, rfl⟩
  have hO2 : w2.ownsRow w.heap.size 72 1 (.slice (some ⟨w.heap.size, 0, none⟩) 0 n) 0 [] := by
    have h1 := World.ownsRow_made w (e := 72) (size := 1) (base := w.heap.size) (Array.replicate n .nilIface) n (by omega) (by unfold maxLen; omega) (by simp)
    rw [hw2]
    exact h1
  have hC2 : Ch S0 w w2 := by rw [hw2]; exact (Ch.refl _ _).alloc _
  have HO2 := Lib.hid hO2
  have HC2 := Lib.hid hC2
  have HW2 := Lib.hid hw2
  have HL := Lib.hid hl
  have HA := Lib.hid hA
  clear hO2 hC2 hw2 hl hA
  go_enter Try.func32, Try.ntmps32
  go_wp2_with fail
  rw [← HW2.out]
  go_loopw [3, 11] (fun vo vi wr => ∃ i : Nat, i ≤ n ∧ vi = .int .i64 i ∧ wr.ownsRow w.heap.size 72 1 vo i (ev (us.take i)) ∧ Ch S0 w wr) (fun _ vi _ => n - (intOf vi).toNat)
  case atStart => exact ⟨0, by omega, rfl, HO2.out, HC2.out⟩
  case round =>
    obtain ⟨i, hi, rfl, hO, hC⟩ := hrel
    have HO := Lib.hid hO
    have HC := Lib.hid hC
    have hsz := hC.size
    clear hO hC
    by_cases hlt : i < n
    · have hlti : (i : Int) < (n : Nat) := by omega
      have hi0 : (0 : Int) ≤ (i : Nat) := by omega
      obtain ⟨x, hx⟩ : ∃ x, us[i]? = some x := ⟨us[i]'(by have := HL.out; omega), by simp [HL.out, hlt]⟩
      obtain ⟨q, o, e, c0, c1⟩ := rd_pv (HA.out.keep0 HC.out) hx
      subst e
      have HT := Lib.hid (take_one hx)
      clear hx
      obtain ⟨x1, x2⟩ := x
      simp only at c0 c1
      go_wp2_with (at_builtin; go_loud (refine app_own elC rfl (.tmp 15) (.tmp 19) rfl w.heap.size i u3 (ev (us.take i)) rfl (own_keep0 HO.out ((Ch.refl S0 wr).alloc _)) [en (x1, x2)] rfl (by simp [en, Value.oneCell']) (wr.heap.size + 1) (World.size_alloc _ _) rfl (by unfold maxLen; omega) (by omega) (by simp only [World.size_alloc]; omega) ?_); intro v' w4 hown4 hc4 hb4; have HOw := Lib.hid hown4; have HC4 := Lib.hid hc4; clear hown4 hc4 hb4)
      go_roundw
      case rel => exact ⟨i + 1, by omega, by go_num, by rw [HT.out, ev_snoc]; exact HOw.out, (HC.out.alloc _).trans' HC4.out (fun j hj e => absurd (own_lt HO.out j e).1 (by omega))⟩
      case measure => simp [intOf]; omega
    · have hin : ¬ (i : Int) < (n : Nat) := by omega
      have hie : i = n := by omega
      go_wp2_with fail
      go_ret
      refine ⟨⟨_, rfl, ?_⟩, HC.out⟩
      have := HO.out
      rwa [hie, ← HL.out, List.take_length, HL.out] at this

set_option maxRecDepth 100000 in
set_option maxHeartbeats 4000000 in
theorem dmKeys_any (A : Option Addr) (n c : Nat) (us : List El) (w : World) (hl : us.length = n) (hn : n ≤ 100000) (hA : Rd w A (pv us)) :
    Calls Try.prog 16 #[.slice A n c] w fun r w' => (∃ v, r = .returned v ∧ w'.ownsRow w.heap.size 3 1 v n (iv (us.map Prod.fst))) ∧ Ch S0 w w' := by
  have HL := Lib.hid hl
  have HA := Lib.hid hA
  clear hl hA
  go_enter Try.func16, Try.ntmps16
  go_wp2_with fail
  go_loopw [3, 8] (fun vo vi wr => ∃ i : Nat, i ≤ n ∧ vi = .int .i64 i ∧ wr.ownsRow w.heap.size 3 1 vo i (iv ((us.take i).map Prod.fst)) ∧ Ch S0 w wr) (fun _ vi _ => n - (intOf vi).toNat)
  case atStart => exact ⟨0, by omega, rfl, World.ownsRow_nil _ _ _ _, Ch.refl _ _⟩
  case round =>
    obtain ⟨i, hi, rfl, hO, hC⟩ := hrel
    have HO := Lib.hid hO
    have HC := Lib.hid hC
    have hsz := hC.size
    clear hO hC
    by_cases hlt : i < n
    · have hlti : (i : Int) < (n : Nat) := by omega
      have hi0 : (0 : Int) ≤ (i : Nat) := by omega
      obtain ⟨x, hx⟩ : ∃ x, us[i]? = some x := ⟨us[i]'(by have := HL.out; omega), by simp [HL.out, hlt]⟩
      obtain ⟨q, o, e, c0, c1⟩ := rd_pv (HA.out.keep0 HC.out) hx
      subst e
      have HT := Lib.hid (take_one hx)
      clear hx
      obtain ⟨x1, x2⟩ := x
      simp only at c0 c1
      go_wp2_with (at_builtin; go_loud (refine app_own elInt rfl (.tmp 12) (.tmp 15) rfl w.heap.size i u3 (iv ((us.take i).map Prod.fst)) rfl (own_keep0 HO.out ((Ch.refl S0 wr).alloc _)) [.int .i64 x1] rfl (by simp [Value.oneCell']) (wr.heap.size + 1) (World.size_alloc _ _) rfl (by unfold maxLen; omega) (by omega) (by simp only [World.size_alloc]; omega) ?_); intro v' w4 hown4 hc4 hb4; have HOw := Lib.hid hown4; have HC4 := Lib.hid hc4; clear hown4 hc4 hb4)
      go_roundw
      case rel => exact ⟨i + 1, by omega, by go_num, by rw [HT.out, List.map_append, List.map_cons, List.map_nil, iv_snoc]; exact HOw.out, (HC.out.alloc _).trans' HC4.out (fun j hj e => absurd (own_lt HO.out j e).1 (by omega))⟩
      case measure => simp [intOf]; omega
    · have hin : ¬ (i : Int) < (n : Nat) := by omega
      have hie : i = n := by omega
      go_wp2_with fail
      go_ret
      refine ⟨⟨_, rfl, ?_⟩, HC.out⟩
      have := HO.out
      rwa [hie, ← HL.out, List.take_length, HL.out] at this
end Go.Proofs.Ytbfcnimebdoagaa
