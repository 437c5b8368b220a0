/- WALKS: dxFew, dsInts, dxPlus. -/
import Derived.Test.YtbfcnimebdoagaaI
namespace Go.Proofs.Ytbfcnimebdoagaa
open Go.RowKit
set_option linter.unusedVariables false
set_option linter.unusedSimpArgs false

/-- Small whole numbers as cells. -/
def sv (xs : List Int) : List Value := xs.map (.int .i16)
theorem sv_at {xs : List Int} {j : Nat} {x : Int} (h : xs[j]? = some x) : (sv xs)[j]? = some (.int .i16 x) := by simp [sv, h]
@[simp] theorem sv_length (xs : List Int) : (sv xs).length = xs.length := by simp [sv]
def is16 (xs : List Int) : Prop := ∀ x ∈ xs, -32768 ≤ x ∧ x ≤ 32767
theorem iv_take_succ {xs : List Int} {i : Nat} {x : Int} (h : xs[i]? = some x) : iv (xs.take (i + 1)) = iv (xs.take i) ++ [.int .i64 x] := by
  rw [List.take_add_one, h]
  simp [iv]
def few30 (n : Nat) : Bool := decide (0 < n) && decide (n ≤ 30)

theorem dxFew_any (A : Option Addr) (n c : Nat) (w : World) (hn : n ≤ 2147483647) :
    Calls Try.prog 9 #[.slice A n c] w fun r w' => r = .returned (.bool (few30 n)) ∧ w' = w := by
  by_cases h0 : 0 < n
  · have h0i : (0 : Int) < (n : Nat) := by omega
    by_cases h30 : n ≤ 30
    · have h30i : (n : Int) ≤ 30 := by omega
      have HF : Hid (few30 n = true) := Lib.hid (by simp [few30, h0, h30])
      go_enter Try.func9, Try.ntmps9
      go_wp2_with fail
      go_ret
      exact ⟨by rw [HF.out]; rfl, rfl⟩
    · have h30i : ¬ (n : Int) ≤ 30 := by omega
      have HF : Hid (few30 n = false) := Lib.hid (by simp [few30, h30])
      go_enter Try.func9, Try.ntmps9
      go_wp2_with fail
      go_ret
      exact ⟨by rw [HF.out]; rfl, rfl⟩
  · have h0i : ¬ (0 : Int) < (n : Nat) := by omega
    have HF : Hid (few30 n = false) := Lib.hid (by simp [few30, h0])
    go_enter Try.func9, Try.ntmps9
    go_wp2_with fail
    go_ret
    exact ⟨by rw [HF.out]; rfl, rfl⟩

set_option maxRecDepth 100000 in
theorem dsInts_any (A : Option Addr) (n c : Nat) (xs : List Int) (w : World) (hx : xs.length = n) (hn : n ≤ 1000000) (hA : Rd w A (sv xs)) (h16 : is16 xs) :
    Calls Try.prog 22 #[.slice A n c] w fun r w' => ∃ v, r = .returned v ∧ w'.ownsRow w.heap.size 3 1 v n (iv xs) ∧ Ch S0 w w' := by
  have HX := Lib.hid hx
  have HA := Lib.hid hA
  have H16 := Lib.hid h16
  clear hx hA h16
  go_enter Try.func22, Try.ntmps22
  go_wp2_with fail
  go_loopw [3, 8] (fun vo vi wr => ∃ i : Nat, i ≤ n ∧ vi = .int .i64 i ∧ wr.ownsRow w.heap.size 3 1 vo i (iv (xs.take i)) ∧ Ch S0 w wr) (fun _ vi _ => n - (intOf vi).toNat)
  case atStart => exact ⟨0, by omega, rfl, World.ownsRow_nil _ _ _ _, Ch.refl _ _⟩
  case round =>
    obtain ⟨i, hi, rfl, hO, hC⟩ := hrel
    have HO := Lib.hid hO
    have HC := Lib.hid hC
    clear hO hC
    by_cases hlt : i < n
    · have hlti : (i : Int) < (n : Nat) := by omega
      obtain ⟨x, hx⟩ : ∃ x, xs[i]? = some x := ⟨xs[i]'(by have := HX.out; omega), by simp [HX.out, hlt]⟩
      obtain ⟨q, o, hAe, c0⟩ := (HA.out.keep0 HC.out).at (sv_at hx)
      subst hAe
      obtain ⟨b1, b2⟩ := H16.out x (List.mem_of_getElem? hx)
      have HT := Lib.hid (iv_take_succ hx)
      have hsz := HC.out.size
      clear hx
      go_wp2_with (at_builtin; go_loud (refine app_own elInt rfl (.tmp 12) (.tmp 15) rfl w.heap.size i u3 (iv (xs.take i)) rfl HO.out [.int .i64 x] rfl (by simp [Value.oneCell']) _ rfl rfl (by unfold maxLen; omega) (by omega) hsz ?_); intro v' w4 hown4 hc4 hb4; have HOw := Lib.hid hown4; have HC4 := Lib.hid hc4; clear hown4 hc4 hb4)
      go_roundw
      case rel => exact ⟨i + 1, by omega, by go_num, by rw [HT.out]; exact HOw.out, HC.out.trans' HC4.out (fun j hj hs => absurd (own_lt HO.out j hs).1 (by omega))⟩
      case measure => simp [intOf]; omega
    · have hin : ¬ (i : Int) < (n : Nat) := by omega
      have hie : i = n := by omega
      go_wp2_with fail
      go_ret
      refine ⟨_, rfl, ?_, HC.out⟩
      have := HO.out
      rwa [hie, ← HX.out, List.take_length, HX.out] at this

set_option maxRecDepth 100000 in
theorem dxPlus_any (A : Option Addr) (n c : Nat) (xs : List Int) (k : Int) (w : World) (hx : xs.length = n) (hn : n ≤ 1000000) (hA : Rd w A (iv xs)) (hb : ∀ x ∈ xs, -1000000000 ≤ x ∧ x ≤ 1000000000) (hk : -1000000000 ≤ k) (hk2 : k ≤ 1000000000) :
    Calls Try.prog 20 #[.slice A n c, .int .i64 k] w fun r w' => ∃ v, r = .returned v ∧ w'.ownsRow w.heap.size 3 1 v n (iv (xs.map (· + k))) ∧ Ch S0 w w' := by
  have HX := Lib.hid hx
  have HA := Lib.hid hA
  have HBd := Lib.hid hb
  clear hx hA hb
  go_enter Try.func20, Try.ntmps20
  go_wp2_with fail
  go_loopw [5, 10] (fun vo vi wr => ∃ i : Nat, i ≤ n ∧ vi = .int .i64 i ∧ wr.ownsRow w.heap.size 3 1 vo i (iv ((xs.take i).map (· + k))) ∧ Ch S0 w wr) (fun _ vi _ => n - (intOf vi).toNat)
  case atStart => exact ⟨0, by omega, rfl, World.ownsRow_nil _ _ _ _, Ch.refl _ _⟩
  case round =>
    obtain ⟨i, hi, rfl, hO, hC⟩ := hrel
    have HO := Lib.hid hO
    have HC := Lib.hid hC
    clear hO hC
    by_cases hlt : i < n
    · have hlti : (i : Int) < (n : Nat) := by omega
      obtain ⟨x, hx⟩ : ∃ x, xs[i]? = some x := ⟨xs[i]'(by have := HX.out; omega), by simp [HX.out, hlt]⟩
      obtain ⟨q, o, hAe, c0⟩ := (HA.out.keep0 HC.out).at (iv_at hx)
      subst hAe
      obtain ⟨b1, b2⟩ := HBd.out x (List.mem_of_getElem? hx)
      have hts : iv ((xs.take (i + 1)).map (· + k)) = iv ((xs.take i).map (· + k)) ++ [.int .i64 (x + k)] := by rw [List.take_add_one, hx]; simp [iv]
      have HT := Lib.hid hts
      have hsz := HC.out.size
      clear hx hts
      go_wp2_with (at_builtin; go_loud (refine app_own elInt rfl (.tmp 14) (.tmp 18) rfl w.heap.size i u5 (iv ((xs.take i).map (· + k))) rfl HO.out [.int .i64 (x + k)] rfl (by simp [Value.oneCell']) _ rfl rfl (by unfold maxLen; omega) (by omega) hsz ?_); intro v' w4 hown4 hc4 hb4; have HOw := Lib.hid hown4; have HC4 := Lib.hid hc4; clear hown4 hc4 hb4)
      go_roundw
      case rel => exact ⟨i + 1, by omega, by go_num, by rw [HT.out]; exact HOw.out, HC.out.trans' HC4.out (fun j hj hs => absurd (own_lt HO.out j hs).1 (by omega))⟩
      case measure => simp [intOf]; omega
    · have hin : ¬ (i : Int) < (n : Nat) := by omega
      have hie : i = n := by omega
      go_wp2_with fail
      go_ret
      refine ⟨_, rfl, ?_, HC.out⟩
      have := HO.out
      rwa [hie, ← HX.out, List.take_length, HX.out] at this
end Go.Proofs.Ytbfcnimebdoagaa
