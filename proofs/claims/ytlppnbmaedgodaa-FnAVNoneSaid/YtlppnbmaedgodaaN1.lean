/- WALKS: entries as the package takes them. -/
import Derived.Test.YtlppnbmaedgodaaK
namespace Go.Proofs.Ytlppnbmaedgodaa
open Go.RowKit
set_option linter.unusedVariables false
set_option linter.unusedSimpArgs false

/-- Entries as cells. -/
def ec (es : List (Int × Int)) : List Value := es.flatMap fun p => [.int .i64 p.1, .int .i64 p.2]
theorem ec_len (es : List (Int × Int)) : (ec es).length = es.length * 2 := by
  induction es with
  | nil => rfl
  | cons x es ih => simp only [ec, List.flatMap_cons, List.length_append, List.length_cons, List.length_nil] at ih ⊢; omega
theorem ec_snoc (es : List (Int × Int)) (p : Int × Int) : ec (es ++ [p]) = ec es ++ [.int .i64 p.1, .int .i64 p.2] := by simp [ec]
theorem ec_app (es fs : List (Int × Int)) : ec (es ++ fs) = ec es ++ ec fs := by simp [ec]
theorem ec_one (es : List (Int × Int)) : ∀ u ∈ ec es, u.oneCell' = true := by
  intro u hu
  simp only [ec, List.mem_flatMap] at hu
  obtain ⟨p, _, hu⟩ := hu
  simp at hu
  rcases hu with rfl | rfl <;> rfl
theorem ec_at : ∀ {es : List (Int × Int)} {i : Nat} {p : Int × Int}, es[i]? = some p → (ec es)[i * 2]? = some (.int .i64 p.1) ∧ (ec es)[i * 2 + 1]? = some (.int .i64 p.2)
  | x :: es, 0, p, h => by simp at h; subst h; exact ⟨rfl, rfl⟩
  | x :: es, i + 1, p, h => by
    have ih := ec_at (es := es) (i := i) (p := p) (by simpa using h)
    have e : ec (x :: es) = [.int .i64 x.1, .int .i64 x.2] ++ ec es := by simp [ec]
    rw [e, List.getElem?_append_right (by simp; omega), List.getElem?_append_right (by simp; omega)]
    simp only [List.length_cons, List.length_nil]
    rw [show (i + 1) * 2 - (0 + 1 + 1) = i * 2 by omega, show (i + 1) * 2 + 1 - (0 + 1 + 1) = i * 2 + 1 by omega]
    exact ih
theorem rd_ec {w : World} {A : Option Addr} {es : List (Int × Int)} {i : Nat} {p : Int × Int} (h : Rd w A (ec es)) (hi : es[i]? = some p) : ∃ b o, A = some ⟨b, o, none⟩ ∧ w.cell? ⟨b, o + i * 2, none⟩ = some (.int .i64 p.1) ∧ w.cell? ⟨b, o + i * 2 + 1, none⟩ = some (.int .i64 p.2) := by
  obtain ⟨h1, h2⟩ := ec_at hi
  obtain ⟨b, o, e, c1⟩ := h.at h1
  obtain ⟨b', o', e', c2⟩ := h.at h2
  rw [e] at e'
  cases e'
  exact ⟨b, o, e, c1, by rw [Nat.add_assoc]; exact c2⟩
theorem pv_snoc (es : List (Int × Int)) (p : Int × Int) : pv (es ++ [p]) = pv es ++ [en p.1 p.2] := by simp [pv]
theorem elAV : EL Try.prog 24 38 2 16 := EL.of (z := .agg #[.int .i64 0, .int .i64 0]) Try.underlying24 (by kernel_rfl) rfl (by decide)
theorem elBo : EL Try.prog 29 4 1 1 := EL.of (z := .bool false) Try.underlying29 (by kernel_rfl) rfl (by decide)
set_option maxRecDepth 100000 in
set_option maxHeartbeats 4000000 in
theorem avEntries_any (A : Option Addr) (n c : Nat) (es : List (Int × Int)) (w : World) (hl : es.length = n) (hn : n ≤ 100000) (hA : Rd w A (ec es)) :
    Calls Try.prog 22 #[.slice A n c] w fun r w' => ∃ v, r = .returned v ∧ w'.ownsRow w.heap.size 66 1 v n (pv es) ∧ Ch S0 w w' := by
  have HL := Lib.hid hl
  have HA := Lib.hid hA
  clear hl hA
  go_enter Try.func22, Try.ntmps22
  go_wp2_with fail
  go_loopw [3, 8] (fun vo vi wr => ∃ i : Nat, i ≤ n ∧ vi = .int .i64 i ∧ wr.ownsRow w.heap.size 66 1 vo i (pv (es.take i)) ∧ Ch S0 w wr) (fun _ vi _ => n - (intOf vi).toNat)
  case atStart => exact ⟨0, by omega, rfl, World.ownsRow_nil _ _ _ _, Ch.refl _ _⟩
  case round =>
    obtain ⟨i, hi, rfl, hO, hC⟩ := hrel
    have HO := Lib.hid hO
    have HC := Lib.hid hC
    have hsz := hC.size
    clear hO hC
    by_cases hlt : i < n
    · have hlti : (i : Int) < (n : Nat) := by omega
      have hi0 : (0 : Int) ≤ (i : Nat) := by omega
      obtain ⟨⟨k, v⟩, hx⟩ : ∃ x, es[i]? = some x := ⟨es[i]'(by have := HL.out; omega), by simp [HL.out, hlt]⟩
      obtain ⟨q, o, e, c0, c1⟩ := rd_ec (HA.out.keep0 HC.out) hx
      subst e
      have HT : Hid (pv (es.take (i + 1)) = pv (es.take i) ++ [en k v]) := Lib.hid (by rw [take_one hx, pv_snoc])
      clear hx
      simp only at c0 c1
      have hsz2 : w.heap.size ≤ (wr.alloc (.cells #[.int .i64 k, .int .i64 v] 38)).heap.size := by rw [World.size_alloc]; omega
      go_wp2_with (at_builtin; go_loud (refine app_own elE0 rfl (.tmp 12) (.tmp 16) rfl w.heap.size i u3 (pv (es.take i)) rfl (own_keep0 HO.out ((Ch.refl S0 wr).alloc _)) [.iface 73 (.agg #[.int .i64 k, .int .i64 v])] rfl (by simp [Value.oneCell']) (wr.heap.size + 1) (World.size_alloc _ _) rfl (by unfold maxLen; omega) (by omega) hsz2 ?_); intro v' w4 hown4 hc4 hb4; have HOw := Lib.hid hown4; have HC4 := Lib.hid hc4; clear hown4 hc4 hb4)
      go_roundw
      case rel => exact ⟨i + 1, by omega, by go_num, by rw [HT.out]; exact HOw.out, (HC.out.alloc _).trans' HC4.out (fun j hj e => absurd (own_lt HO.out j e).1 (by omega))⟩
      case measure => simp [intOf]; omega
    · have hin : ¬ (i : Int) < (n : Nat) := by omega
      have hie : i = n := by omega
      go_wp2_with fail
      go_ret
      have := HO.out
      rw [hie, ← HL.out, List.take_length, HL.out] at this
      exact ⟨_, rfl, this, HC.out⟩
end Go.Proofs.Ytlppnbmaedgodaa
