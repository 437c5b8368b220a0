/- WALKS: diLongs; slices.Sort and slices.Compact at []int64. -/
import Derived.Test.YtpkeiankocimaaaIO
namespace Go.Proofs.Ytpkeiankocimaaa
open Go.RowKit Go.Sort
set_option linter.unusedVariables false
set_option linter.unusedSimpArgs false

theorem el64 : EL Try.prog 25 2 1 8 := EL.of (z := .int .i64 0) Try.underlying25 (by kernel_rfl) rfl (by decide)

set_option maxRecDepth 100000 in
theorem longs_plus (A : Option Addr) (n c : Nat) (xs : List Int) (k : Int) (w : World) (hx : xs.length = n) (hn : n ≤ 1000000) (hA : Rd w A (sv xs)) (hb : is16 xs) (hk : -1000000000 ≤ k) (hk2 : k ≤ 1000000000) :
    Calls Try.prog 7 #[.slice A n c, .int .i64 k] w fun r w' => ∃ v, r = .returned v ∧ w'.ownsRow w.heap.size 2 1 v n (iv (xs.map (· + k))) ∧ Ch S0 w w' := by
  have HX := Lib.hid hx
  have HA := Lib.hid hA
  have HBd := Lib.hid hb
  clear hx hA hb
  go_enter Try.func7, Try.ntmps7
  go_wp2_with fail
  go_loopw [5, 10] (fun vo vi wr => ∃ i : Nat, i ≤ n ∧ vi = .int .i64 i ∧ wr.ownsRow w.heap.size 2 1 vo i (iv ((xs.take i).map (· + k))) ∧ Ch S0 w wr) (fun _ vi _ => n - (intOf vi).toNat)
  case atStart => exact ⟨0, by omega, rfl, World.ownsRow_nil _ _ _ _, Ch.refl _ _⟩
  case round =>
    obtain ⟨i, hi, rfl, hO, hC⟩ := hrel
    have HO := Lib.hid hO
    have HC := Lib.hid hC
    clear hO hC
    by_cases hlt : i < n
    · have hlti : (i : Int) < (n : Nat) := by omega
      obtain ⟨x, hx⟩ : ∃ x, xs[i]? = some x := ⟨xs[i]'(by have := HX.out; omega), by simp [HX.out, hlt]⟩
      obtain ⟨q, o, hAe, c0⟩ := (HA.out.keep0 HC.out).at (sv_at hx)
      subst hAe
      obtain ⟨b1, b2⟩ := HBd.out x (List.mem_of_getElem? hx)
      have hts : iv ((xs.take (i + 1)).map (· + k)) = iv ((xs.take i).map (· + k)) ++ [.int .i64 (x + k)] := by rw [List.take_add_one, hx]; simp [iv]
      have HT := Lib.hid hts
      have hsz := HC.out.size
      clear hx hts
      go_wp2_with (at_builtin; go_loud (refine app_own el64 rfl (.tmp 14) (.tmp 19) rfl w.heap.size i u5 (iv ((xs.take i).map (· + k))) rfl HO.out [.int .i64 (x + k)] rfl (by simp [Value.oneCell']) _ rfl rfl (by unfold maxLen; omega) (by omega) hsz ?_); intro v' w4 hown4 hc4 hb4; have HOw := Lib.hid hown4; have HC4 := Lib.hid hc4; clear hown4 hc4 hb4)
      go_roundw
      case rel => exact ⟨i + 1, by omega, by go_num, by rw [HT.out]; exact HOw.out, HC.out.trans' HC4.out (fun j hj hs => absurd (own_lt HO.out j hs).1 (by omega))⟩
      case measure => simp [intOf]; omega
    · have hin : ¬ (i : Int) < (n : Nat) := by omega
      have hie : i = n := by omega
      go_wp2_with fail
      go_ret
      refine ⟨_, rfl, ?_, HC.out⟩
      have := HO.out
      rwa [hie, ← HX.out, List.take_length, HX.out] at this
theorem longs_any (A : Option Addr) (n c : Nat) (xs : List Int) (w : World) (hx : xs.length = n) (hn : n ≤ 1000000) (hA : Rd w A (sv xs)) (hb : is16 xs) :
    Calls Try.prog 7 #[.slice A n c, .int .i64 0] w fun r w' => ∃ v, r = .returned v ∧ w'.ownsRow w.heap.size 2 1 v n (iv xs) ∧ Ch S0 w w' := by
  have h := longs_plus A n c xs 0 w hx hn hA hb (by decide) (by decide)
  simpa using h

theorem own_holds {w : World} {base E n g cap : Nat} {xs : List Int} (h : w.ownsRow base E 1 (.slice (some ⟨g, 0, none⟩) n cap) n (iv xs)) : Holds (Value.int .i64) w g 0 xs.toArray ∧ g < w.heap.size ∧ n ≤ cap ∧ xs.length = n := by
  obtain ⟨g', cap', e, _, h1, h2, _, h3, h4⟩ := Lib.holds_of_ownsRow (enc := Value.int .i64) h (by intro e; cases e)
  cases e
  exact ⟨h4, h1, h2, h3⟩

/-- slices.Sort of a row of one's own. -/
theorem sort64 (base n : Nat) (v : Value) (xs : List Int) (w : World) (hx : xs.length = n) (hn : n ≤ 1000000) (h0 : 0 < n) (hO : w.ownsRow base 2 1 v n (iv xs)) :
    Calls Try.prog 8 #[v] w fun r w' => r = .returned (.tuple #[]) ∧ w'.ownsRow base 2 1 v n (iv (srt xs)) ∧ Ch (fun k => v.ownBlock = some k) w w' := by
  obtain ⟨A, cap, rfl, hR, _, hA, hA2, _⟩ := own_rd hO
  obtain ⟨b, rfl⟩ := hA2.resolve_left (by omega)
  obtain ⟨hH, hb, hcap, _⟩ := own_holds hO
  have hc := Try.slices_Sort_int b 0 cap xs w hH hb (by omega)
  rw [hx] at hc
  refine hc.mono fun r w' ⟨h1, m, os, h2⟩ => ⟨h1, ?_, ?_⟩
  · rw [h2]
    have := own_put (q := m) (k := n) (ys := srt xs) hO (by rw [srt_len, hx]) (Nat.le_refl _) os
    rwa [List.take_of_length_le (by rw [srt_len]; omega)] at this
  · rw [h2]
    have hch : Ch (fun k => k = b) w (grow (putRow (Value.int .i64) (Sort.ahead w m) b 0 (srt xs).toArray) os) := ch_put w b m _ os
    exact ⟨hch.os, hch.tape, hch.output, hch.size, fun k hk hne => hch.block k hk fun e => hne (by rw [e]; rfl)⟩

/-- slices.Compact of a row of one's own. -/
theorem compact64 (base n : Nat) (v : Value) (xs : List Int) (w : World) (hx : xs.length = n) (hn : n ≤ 1000000) (h0 : 0 < n) (hO : w.ownsRow base 2 1 v n (iv xs)) :
    Calls Try.prog 9 #[v] w fun r w' => ∃ A c, r = .returned (.slice A (Lib.compact xs).length c) ∧ Rd w' A (iv (Lib.compact xs)) ∧ Ch (fun k => v.ownBlock = some k) w w' := by
  obtain ⟨A, cap, rfl, hR, _, hA, hA2, _⟩ := own_rd hO
  obtain ⟨b, rfl⟩ := hA2.resolve_left (by omega)
  obtain ⟨hH, hb, hcap, _⟩ := own_holds hO
  have hc := Try.slices_Compact_int b 0 cap xs w hH (by omega) (by omega)
  rw [hx] at hc
  have hle := Lib.compact_length_le xs
  refine hc.mono fun r w' ⟨h1, m, h2⟩ => ⟨_, cap, h1, ?_, ?_⟩
  · rw [h2]
    have := own_put (q := m) (k := (Lib.compact xs).length) (ys := Lib.compact xs ++ List.replicate (n - (Lib.compact xs).length) 0) hO (by simp; omega) (by omega) #[]
    rw [List.take_left, Sort.grow_empty] at this
    obtain ⟨A', c', e, hR', _⟩ := own_rd this
    cases e
    exact hR'
  · rw [h2]
    have hch : Ch (fun k => k = b) w (grow (putRow (Value.int .i64) (Sort.ahead w m) b 0 (Lib.compact xs ++ List.replicate (n - (Lib.compact xs).length) 0).toArray) #[]) := ch_put w b m _ #[]
    rw [Sort.grow_empty] at hch
    exact ⟨hch.os, hch.tape, hch.output, hch.size, fun k hk hne => hch.block k hk fun e => hne (by rw [e]; rfl)⟩
end Go.Proofs.Ytpkeiankocimaaa
