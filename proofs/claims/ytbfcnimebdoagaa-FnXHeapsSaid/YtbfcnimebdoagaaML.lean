/- WALKS: elements by their sorted Keys. -/
import Derived.Test.YtbfcnimebdoagaaMJ
import Derived.Test.YtbfcnimebdoagaaMK
import Derived.Test.YtbfcnimebdoagaaO
import Derived.Test.YtbfcnimebdoagaaD1
namespace Go.Proofs.Ytbfcnimebdoagaa
open Go.RowKit
set_option linter.unusedVariables false
set_option linter.unusedSimpArgs false

/-- Elements by their Keys, each greater by a number; the Tags count from t on. -/
def mi (S : List Int) (t : Nat) (by' : Int) (i : Nat) : List El := (List.range i).map fun j => (S.getD j 0 + by', ((t + j : Nat) : Int))
@[simp] theorem mi_len (S : List Int) (t : Nat) (b : Int) (i : Nat) : (mi S t b i).length = i := by simp [mi]
theorem mi_succ (S : List Int) (t : Nat) (b : Int) (i : Nat) {x : Int} (h : S[i]? = some x) : mi S t b (i + 1) = mi S t b i ++ [(x + b, ((t + i : Nat) : Int))] := by
  have e : S.getD i 0 = x := by simp [List.getD, h]
  unfold mi
  rw [List.range_succ, List.map_append]
  simp only [List.map_cons, List.map_nil, e]
theorem mi_keys (S : List Int) (t : Nat) (b : Int) : (mi S t b S.length).map Prod.fst = S.map (· + b) := by
  apply List.ext_getElem?
  intro j
  by_cases hj : j < S.length
  · simp [mi, hj, List.getD]
  · rw [List.getElem?_eq_none (by simp; omega), List.getElem?_eq_none (by simp; omega)]
theorem mi_tags (S : List Int) (t : Nat) (b : Int) (i : Nat) : (mi S t b i).map Prod.snd = (List.range i).map fun j => ((t + j : Nat) : Int) := by
  simp [mi, List.map_map, Function.comp_def]
theorem mi_srt (xs : List Int) (t : Nat) (b : Int) (n : Nat) (h : xs.length = n) : Srt (mi (srt xs) t b n) := by
  unfold Srt
  have e : n = (srt xs).length := by rw [srt_len, h]
  rw [e, mi_keys]
  rw [List.pairwise_map]
  exact (srt_sorted xs).imp fun h => by omega

set_option maxRecDepth 100000 in
set_option maxHeartbeats 4000000 in
theorem dmItems_any (A : Option Addr) (n c t : Nat) (b : Int) (xs : List Int) (w : World) (hl : xs.length = n) (hn : n ≤ 1000) (ht : t ≤ 1000) (hb1 : -40000 ≤ b) (hb2 : b ≤ 40000) (hA : Rd w A (sv xs)) (h16 : is16 xs) :
    Calls Try.prog 15 #[.slice A n c, .int .i64 t, .int .i64 b] w fun r w' => (∃ v, r = .returned v ∧ w'.ownsRow w.heap.size 48 2 v n (pv (mi (srt xs) t b n))) ∧ Ch S0 w w' := by
  have HL := Lib.hid hl
  have HA := Lib.hid hA
  have H16 := Lib.hid h16
  clear hl hA h16
  go_enter Try.func15, Try.ntmps15
  go_wp2_with fail
  refine (dsInts_any A n c xs _ HL.out (by omega) HA.out H16.out).mono ?_
  rintro r w1 ⟨v1, rfl, hO1, hC1⟩
  obtain ⟨A1, c1, rfl, hR1, _⟩ := own_rd hO1
  have HR1 := Lib.hid hR1
  have HC1 := Lib.hid hC1
  clear hO1 hR1 hC1
  go_wp2_with fail
  refine (sorted_any A1 n c1 xs _ HL.out (by omega) HR1.out).mono ?_
  rintro r w2 ⟨A2, c2, rfl, hR2, hC2⟩
  have hsl : (srt xs).length = n := by rw [srt_len, HL.out]
  have HSl := Lib.hid hsl
  have HR2 := Lib.hid hR2
  have HC2 := Lib.hid (HC1.out.trans hC2)
  have H16s : Hid (is16 (srt xs)) := Lib.hid (fun x hx => H16.out x ((srt_perm xs).subset hx))
  clear hR2 hC2 hsl
  go_wp2_with fail
  go_loopw [7, 14] (fun vo vi wr => ∃ i : Nat, i ≤ n ∧ vi = .int .i64 i ∧ wr.ownsRow w2.heap.size 48 2 vo i (pv (mi (srt xs) t b i)) ∧ Ch S0 w2 wr) (fun _ vi _ => n - (intOf vi).toNat)
  case atStart => exact ⟨0, by omega, rfl, World.ownsRow_nil _ _ _ _, Ch.refl _ _⟩
  case round =>
    obtain ⟨i, hi, rfl, hO, hC⟩ := hrel
    have HO := Lib.hid hO
    have HC := Lib.hid hC
    have hsz := hC.size
    obtain ⟨A7, c7, rfl, _, _, _, _, _⟩ := own_rd hO
    clear hO hC
    by_cases hlt : i < n
    · have hlti : (i : Int) < (n : Nat) := by omega
      have hi0 : (0 : Int) ≤ (i : Nat) := by omega
      obtain ⟨x, hx⟩ : ∃ x, (srt xs)[i]? = some x := ⟨(srt xs)[i]'(by have := HSl.out; omega), by simp [HSl.out, hlt]⟩
      obtain ⟨q, o, e, c0⟩ := (HR2.out.keep0 HC.out).at (iv_at hx)
      subst e
      obtain ⟨b1, b2⟩ := H16s.out x (List.mem_of_getElem? hx)
      obtain ⟨k, hk⟩ : ∃ k, k = t + i := ⟨_, rfl⟩
      have hki : (t : Int) + (i : Int) = (k : Nat) := by omega
      have HT : Hid (pv (mi (srt xs) t b (i + 1)) = pv (mi (srt xs) t b i) ++ [.int .i64 (x + b), .int .i64 k]) := Lib.hid (by rw [mi_succ _ _ _ _ hx, hk]; exact pv_snoc _ _)
      clear hx hk
      go_wp2_with (at_builtin; go_loud (refine app_own elIt rfl (.tmp 18) (.tmp 27) rfl w2.heap.size i (.slice A7 i c7) (pv (mi (srt xs) t b i)) rfl HO.out [.int .i64 (x + b), .int .i64 k] rfl (by simp [Value.oneCell']) _ rfl rfl (by unfold maxLen; omega) (by omega) hsz ?_); intro v' w4 hown4 hc4 hb4; have HOw := Lib.hid hown4; have HC4 := Lib.hid hc4; clear hown4 hc4 hb4)
      go_roundw
      case rel => exact ⟨i + 1, by omega, by go_num, by rw [HT.out]; exact HOw.out, HC.out.trans' HC4.out (fun j hj e => absurd (own_lt HO.out j e).1 (by omega))⟩
      case measure => simp [intOf]; omega
    · have hin : ¬ (i : Int) < (n : Nat) := by omega
      have hie : i = n := by omega
      go_wp2_with fail
      go_ret
      have h1 := HO.out
      subst hie
      exact ⟨⟨_, rfl, own_base h1 (by have := HC2.out.size; omega)⟩, HC2.out.trans HC.out⟩
end Go.Proofs.Ytbfcnimebdoagaa
