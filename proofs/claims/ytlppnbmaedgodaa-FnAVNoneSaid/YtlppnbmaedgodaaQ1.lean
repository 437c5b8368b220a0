/- WALKS: a run; entries by their Keys. -/
import Derived.Test.YtlppnbmaedgodaaN4
import Derived.Deep.LoopGhost
import Derived.Shelf.Abstract
namespace Go.Proofs.Ytlppnbmaedgodaa
open Go.RowKit
set_option linter.unusedVariables false
set_option linter.unusedSimpArgs false

def sv (xs : List Int) : List Value := xs.map (.int .i16)
theorem sv_at {xs : List Int} {j : Nat} {x : Int} (h : xs[j]? = some x) : (sv xs)[j]? = some (.int .i16 x) := by simp [sv, h]
@[simp] theorem sv_length (xs : List Int) : (sv xs).length = xs.length := by simp [sv]
def is16 (xs : List Int) : Prop := ∀ x ∈ xs, -32768 ≤ x ∧ x ≤ 32767
def few30 (n : Nat) : Bool := decide (0 < n) && decide (n ≤ 30)
theorem dxFew_any (A : Option Addr) (n c : Nat) (w : World) (hn : n ≤ 2147483647) :
    Calls Try.prog 5 #[.slice A n c] w fun r w' => r = .returned (.bool (few30 n)) ∧ w' = w := by
  by_cases h0 : 0 < n
  · have h0i : (0 : Int) < (n : Nat) := by omega
    by_cases h30 : n ≤ 30
    · have h30i : (n : Int) ≤ 30 := by omega
      have HF : Hid (few30 n = true) := Lib.hid (by simp [few30, h0, h30])
      go_enter Try.func5, Try.ntmps5
      go_wp2_with fail
      go_ret
      exact ⟨by rw [HF.out]; rfl, rfl⟩
    · have h30i : ¬ (n : Int) ≤ 30 := by omega
      have HF : Hid (few30 n = false) := Lib.hid (by simp [few30, h30])
      go_enter Try.func5, Try.ntmps5
      go_wp2_with fail
      go_ret
      exact ⟨by rw [HF.out]; rfl, rfl⟩
  · have h0i : ¬ (0 : Int) < (n : Nat) := by omega
    have HF : Hid (few30 n = false) := Lib.hid (by simp [few30, h0])
    go_enter Try.func5, Try.ntmps5
    go_wp2_with fail
    go_ret
    exact ⟨by rw [HF.out]; rfl, rfl⟩

set_option maxRecDepth 100000 in
theorem run_any (A : Option Addr) (N c : Nat) (ss : List St) (w : World) (hl : ss.length = N) (hN : N ≤ 100) (hA : Rd w A (stC ss)) (hs : ∀ s ∈ ss, StIn w s) (hf : FineAll [[]] ss) :
    Calls Try.prog 8 #[.slice A N c] w fun r w' => (∃ v, r = .returned v ∧ RunR w ss N v w') ∧ Ch S0 w w' := by
  have HA := Lib.hid (avAll_any A N c ss w hl hN hA hs hf)
  clear hl hA hs hf
  go_enter Try.func8, Try.ntmps8
  go_wp2_with (go_at_call 17; refine HA.out.mono ?_; rintro r w1 ⟨⟨v1, v2, rfl, hR⟩, hC⟩; have HR := Lib.hid hR; have HC := Lib.hid hC; clear hR hC)
  go_ret
  exact ⟨⟨_, rfl, HR.out⟩, HC.out⟩
set_option maxRecDepth 100000 in
theorem clos_any (bx : Nat) (k v x : Int) (w : World) (hx : w.cell? ⟨bx, 0, none⟩ = some (.int .i16 x)) (hb : -32768 ≤ x ∧ x ≤ 32767) :
    Calls Try.prog 14 #[.agg #[.int .i64 k, .int .i64 v], .pointer (some ⟨bx, 0, none⟩)] w fun r w' => r = .returned (.bool (decide (k = x))) ∧ Ch S0 w w' := by
  obtain ⟨b1, b2⟩ := hb
  have hx2 : (w.alloc (.cells #[.int .i64 k, .int .i64 v] 38)).cell? ⟨bx, 0, none⟩ = some (.int .i16 x) := by
    rw [World.cell?_of_block (w := w) (((Ch.refl S0 w).alloc _).block bx (World.block_lt_of_cell? w _ hx) (fun h => h))]; exact hx
  have hk := (Blk.new w #[.int .i64 k, .int .i64 v] 38).cell 0
  simp only [List.getElem?_toArray, List.getElem?_cons_zero] at hk
  by_cases e : k = x
  · subst e
    have HD : Hid (decide (k = k) = true) := Lib.hid (by simp)
    go_enter Try.func14, Try.ntmps14
    go_wp2_with fail
    go_ret
    exact ⟨rfl, (Ch.refl S0 w).alloc _⟩
  · have HD : Hid (decide (k = x) = false) := Lib.hid (by simp [e])
    have hne : (k == x) = false := by simp [e]
    have HE := Lib.hid e
    clear e
    go_enter Try.func14, Try.ntmps14
    go_wp2_with fail
    go_ret
    exact ⟨by rw [HD.out]; first | rfl | simp [HE.out], (Ch.refl S0 w).alloc _⟩
set_option maxRecDepth 100000 in
theorem clos2_any (bx : Nat) (k v x y : Int) (w : World) (hx : w.cell? ⟨bx, 0, none⟩ = some (.int .i64 x)) :
    Calls Try.prog 11 #[.agg #[.int .i64 k, .int .i64 v], .pointer (some ⟨bx, 0, none⟩)] w fun r w' => r = .returned (.bool (decide (k = x))) ∧ Ch S0 w w' := by
  have hx2 : (w.alloc (.cells #[.int .i64 k, .int .i64 v] 38)).cell? ⟨bx, 0, none⟩ = some (.int .i64 x) := by
    rw [World.cell?_of_block (w := w) (((Ch.refl S0 w).alloc _).block bx (World.block_lt_of_cell? w _ hx) (fun h => h))]; exact hx
  have hk := (Blk.new w #[.int .i64 k, .int .i64 v] 38).cell 0
  simp only [List.getElem?_toArray, List.getElem?_cons_zero] at hk
  by_cases e : k = x
  · subst e
    have HD : Hid (decide (k = k) = true) := Lib.hid (by simp)
    go_enter Try.func11, Try.ntmps11
    go_wp2_with fail
    go_ret
    exact ⟨rfl, (Ch.refl S0 w).alloc _⟩
  · have HD : Hid (decide (k = x) = false) := Lib.hid (by simp [e])
    have hne : (k == x) = false := by simp [e]
    have HE := Lib.hid e
    clear e
    go_enter Try.func11, Try.ntmps11
    go_wp2_with fail
    go_ret
    exact ⟨by rw [HD.out]; first | rfl | simp [HE.out], (Ch.refl S0 w).alloc _⟩
theorem any_take {es : List (Int × Int)} {p : Int → Bool} {i : Nat} {e : Int × Int} (h : es[i]? = some e) (h0 : (es.take i).any (fun e => p e.1) = false) : (es.take (i + 1)).any (fun e => p e.1) = p e.1 := by
  rw [take_one h, List.any_append, h0]
  simp
theorem any_of_take {es : List (Int × Int)} {p : Int → Bool} {i : Nat} (h : (es.take i).any (fun e => p e.1) = true) : es.any (fun e => p e.1) = true := by
  rw [← List.take_append_drop i es, List.any_append, h]
  rfl
set_option maxRecDepth 100000 in
set_option maxHeartbeats 4000000 in
theorem index_any (g : Nat) (cb : Array Value) (p : Int → Bool) (A : Option Addr) (n c : Nat) (es : List (Int × Int)) (w : World) (eg : ∀ args w, (callFunc g args).run Try.prog w = .ok (.enter g args) w) (hl : es.length = n) (hn : n ≤ 100000) (hA : Rd w A (ec es))
    (hf : ∀ (wr : World) (k v : Int), Ch S0 w wr → Calls Try.prog g (#[.agg #[.int .i64 k, .int .i64 v]] ++ cb) wr fun e w' => e = .returned (.bool (p k)) ∧ Ch S0 wr w') :
    Calls Try.prog 18 #[.slice A n c, .func (.func g) #[] cb] w fun e w' => (∃ z : Int, e = .returned (.int .i64 z) ∧ decide (0 ≤ z) = es.any (fun e => p e.1)) ∧ Ch S0 w w' := by
  have HF := Lib.hid hf
  have HL := Lib.hid hl
  have HA := Lib.hid hA
  clear hf hl hA
  go_enter Try.func18, Try.ntmps18
  go_wp2_with fail
  go_loopw [8] (fun vi wr => ∃ i : Nat, i ≤ n ∧ vi = .int .i64 i ∧ Hid ((es.take i).any (fun e => p e.1) = false) ∧ Ch S0 w wr) (fun vi _ => n - (intOf vi).toNat)
  case atStart => exact ⟨0, by omega, rfl, Lib.hid rfl, Ch.refl _ _⟩
  case round =>
    obtain ⟨i, hi, rfl, H0, hC⟩ := hrel
    have HC := Lib.hid hC
    clear hC
    by_cases hlt : i < n
    · have hlti : (i : Int) < (n : Nat) := by omega
      have hi0 : (0 : Int) ≤ (i : Nat) := by omega
      obtain ⟨⟨k, v⟩, hx⟩ : ∃ x, es[i]? = some x := ⟨es[i]'(by have := HL.out; omega), by simp [HL.out, hlt]⟩
      obtain ⟨q, o, e, c0, c1⟩ := rd_ec (HA.out.keep0 HC.out) hx
      subst e
      have hT := any_take (p := p) hx H0.out
      have hc := HF.out wr k v HC.out
      simp only at c0 c1 hT
      cases hp : p k <;> rw [hp] at hc hT
      · have HT := Lib.hid hT
        clear hx hp hT
        go_wp2_with (go_at_fn g; refine hc.mono ?_; rintro e w' ⟨rfl, hC2⟩; have HC2 := Lib.hid (HC.out.trans hC2); clear hC2)
        go_roundw
        case rel => exact ⟨i + 1, by omega, by go_num, HT, HC2.out⟩
        case measure => simp [intOf]; omega
      · have HT := Lib.hid (any_of_take hT)
        clear hx hp hT
        go_wp2_with (go_at_fn g; refine hc.mono ?_; rintro e w' ⟨rfl, hC2⟩; have HC2 := Lib.hid (HC.out.trans hC2); clear hC2)
        go_ret
        exact ⟨⟨_, rfl, by rw [HT.out]; simp⟩, HC2.out⟩
    · have hin : ¬ (i : Int) < (n : Nat) := by omega
      have hie : i = n := by omega
      have HT : Hid (es.any (fun e => p e.1) = false) := Lib.hid (by have := H0.out; rwa [hie, ← HL.out, List.take_length] at this)
      clear hie
      go_wp2_with fail
      go_ret
      exact ⟨⟨_, rfl, by rw [HT.out]; decide⟩, HC.out⟩
set_option maxRecDepth 100000 in
theorem contains_any (g : Nat) (cb : Array Value) (p : Int → Bool) (A : Option Addr) (n c : Nat) (es : List (Int × Int)) (w : World) (eg : ∀ args w, (callFunc g args).run Try.prog w = .ok (.enter g args) w) (hl : es.length = n) (hn : n ≤ 100000) (hA : Rd w A (ec es))
    (hf : ∀ (wr : World) (k v : Int), Ch S0 w wr → Calls Try.prog g (#[.agg #[.int .i64 k, .int .i64 v]] ++ cb) wr fun e w' => e = .returned (.bool (p k)) ∧ Ch S0 wr w') :
    Calls Try.prog 10 #[.slice A n c, .func (.func g) #[] cb] w fun e w' => e = .returned (.bool (es.any (fun e => p e.1))) ∧ Ch S0 w w' := by
  have HI := Lib.hid (index_any g cb p A n c es w eg hl hn hA hf)
  obtain ⟨b, hb⟩ : ∃ b, es.any (fun e => p e.1) = b := ⟨_, rfl⟩
  rw [hb] at HI ⊢
  clear hf hl hA eg hb
  cases b with
  | true =>
    go_enter Try.func10, Try.ntmps10
    go_wp2_with (go_at_call 18; refine HI.out.mono ?_; rintro r w1 ⟨⟨z, rfl, hz⟩, hC⟩; have hz2 : 0 ≤ z := of_decide_eq_true hz; have HC := Lib.hid hC; clear hC hz)
    go_ret
    exact ⟨rfl, HC.out⟩
  | false =>
    go_enter Try.func10, Try.ntmps10
    go_wp2_with (go_at_call 18; refine HI.out.mono ?_; rintro r w1 ⟨⟨z, rfl, hz⟩, hC⟩; have HZ := Lib.hid hz; have HC := Lib.hid hC; clear hC hz)
    go_ret
    refine ⟨?_, HC.out⟩
    show Ending.returned (Value.bool (decide (0 ≤ z))) = _
    rw [HZ.out]
/-- Entries by their Keys, each once. -/
def dvAdd (more : Int) (out : List (Int × Int)) (x : Int) : List (Int × Int) := if out.any (fun e => decide (e.1 = x)) then out else out ++ [(x, (out.length : Int) + 1 + more)]
def dvL (more : Int) (xs : List Int) : List (Int × Int) := xs.foldl (dvAdd more) []
theorem dvL_snoc (more : Int) (xs : List Int) (x : Int) : dvL more (xs ++ [x]) = dvAdd more (dvL more xs) x := by simp [dvL]
theorem dvAdd_len (more : Int) (out : List (Int × Int)) (x : Int) : (dvAdd more out x).length ≤ out.length + 1 := by unfold dvAdd; split <;> simp
theorem dvL_len (more : Int) (xs : List Int) : (dvL more xs).length ≤ xs.length := by
  have h : ∀ (xs : List Int) (out : List (Int × Int)), (xs.foldl (dvAdd more) out).length ≤ out.length + xs.length := fun xs => by
    induction xs with
    | nil => intro out; simp
    | cons x xs ih =>
      intro out
      have h1 := ih (dvAdd more out x)
      have h2 := dvAdd_len more out x
      simp only [List.foldl_cons, List.length_cons]
      omega
  simpa [dvL] using h xs []
theorem cell_on {w w' : World} {b : Nat} {x : Value} (h : w.cell? ⟨b, 0, none⟩ = some x) (hc : Ch S0 w w') : w'.cell? ⟨b, 0, none⟩ = some x := by
  rw [World.cell?_of_block (w := w) (hc.block b (World.block_lt_of_cell? w _ h) (fun h => h))]; exact h
theorem own_ec {w : World} {base n : Nat} {v : Value} {es : List (Int × Int)} (h : w.ownsRow base 38 2 v n (ec es)) : es.length = n := by
  have := h.1
  rw [ec_len] at this
  omega
set_option maxRecDepth 100000 in
set_option maxHeartbeats 8000000 in
theorem dvEntries_any (A : Option Addr) (n c : Nat) (xs : List Int) (more : Int) (w : World) (hx : xs.length = n) (hn : n ≤ 1000) (hm0 : 0 ≤ more) (hm : more ≤ 1000) (hA : Rd w A (sv xs)) (h16 : is16 xs) :
    Calls Try.prog 6 #[.slice A n c, .int .i64 more] w fun r w' => (∃ v, r = .returned v ∧ w'.ownsRow w.heap.size 38 2 v (dvL more xs).length (ec (dvL more xs))) ∧ Ch S0 w w' := by
  have eg : ∀ args w, (callFunc 14 args).run Try.prog w = .ok (.enter 14 args) w := enters_of Try.func14 (by kernel_rfl) rfl
  have HEg := Lib.hid eg
  have HX := Lib.hid hx
  have HA := Lib.hid hA
  have H16 := Lib.hid h16
  clear hx hA h16 eg
  go_enter Try.func6, Try.ntmps6
  go_wp2_with fail
  go_loopw [5, 11] (fun vo vi wr => ∃ i m : Nat, i ≤ n ∧ vi = .int .i64 i ∧ m ≤ i ∧ wr.ownsRow w.heap.size 38 2 vo m (ec (dvL more (xs.take i))) ∧ Ch S0 w wr) (fun _ vi _ => n - (intOf vi).toNat)
  case atStart => exact ⟨0, 0, by omega, rfl, Nat.le_refl _, World.ownsRow_nil _ _ _ _, Ch.refl _ _⟩
  case round =>
    obtain ⟨i, m, hi, rfl, hmi, hO, hC⟩ := hrel
    have HO := Lib.hid hO
    have HC := Lib.hid hC
    clear hO hC
    by_cases hlt : i < n
    · have hlti : (i : Int) < (n : Nat) := by omega
      have hi0 : (0 : Int) ≤ (i : Nat) := by omega
      obtain ⟨x, hx⟩ : ∃ x, xs[i]? = some x := ⟨xs[i]'(by have := HX.out; omega), by simp [HX.out, hlt]⟩
      obtain ⟨q, o, hAe, c0⟩ := (HA.out.keep0 HC.out).at (sv_at hx)
      subst hAe
      have hb16 := H16.out x (List.mem_of_getElem? hx)
      have HB16 := Lib.hid hb16
      have HT : Hid (dvL more (xs.take (i + 1)) = dvAdd more (dvL more (xs.take i)) x) := Lib.hid (by rw [take_one hx, dvL_snoc])
      have hsz := HC.out.size
      have HM : Hid ((dvL more (xs.take i)).length = m) := Lib.hid (own_ec HO.out)
      obtain ⟨W2, hW2⟩ : ∃ W, W = wr.alloc (.cells #[.int .i16 x] 44) := ⟨_, rfl⟩
      have hx2 : W2.cell? ⟨wr.heap.size, 0, none⟩ = some (.int .i16 x) := by rw [hW2]; exact (Blk.new wr #[.int .i16 x] 44).cell 0
      have hC2 : Ch S0 wr W2 := by rw [hW2]; exact (Ch.refl S0 wr).alloc _
      have hbl : wr.heap.size < W2.heap.size := by rw [hW2, World.size_alloc]; omega
      obtain ⟨Ao, co, rfl, hRo, _, _, _, _⟩ := own_rd HO.out
      have HCon := Lib.hid (contains_any 14 #[.pointer (some ⟨wr.heap.size, 0, none⟩)] (fun k => decide (k = x)) Ao m co (dvL more (xs.take i)) W2 HEg.out HM.out (by omega) (hRo.keep0 hC2) (fun wr' k v hc => clos_any wr.heap.size k v x wr' (by rw [World.cell?_of_block (w := W2) (hc.block _ hbl (fun h => h))]; exact hx2) hb16))
      have HW2 := Lib.hid hW2
      have HX2 := Lib.hid hx2
      have HC2 := Lib.hid (HC.out.trans hC2)
      have HO2 := Lib.hid (own_keep0 HO.out hC2)
      obtain ⟨d1, d2⟩ := hb16
      clear hx hC2 hW2 hbl hRo hx2
      cases han : (dvL more (xs.take i)).any (fun e => decide (e.1 = x)) <;> rw [han] at HCon
      · have HT2 : Hid (ec (dvL more (xs.take (i + 1))) = ec (dvL more (xs.take i)) ++ [.int .i64 x, .int .i64 ((m : Int) + 1 + more)]) := Lib.hid (by rw [HT.out]; unfold dvAdd; rw [if_neg (by rw [han]; simp), ec_snoc, HM.out])
        clear han
        go_wp2_with (first | (go_at_call 10; rw [← HW2.out]; refine HCon.out.mono ?_; rintro r w3 ⟨rfl, hC3⟩; have x3 : w3.cell? ⟨wr.heap.size, 0, none⟩ = some (.int .i16 x) := cell_on HX2.out hC3; have HC3 := Lib.hid (HC2.out.trans hC3); have HO3 := Lib.hid (own_keep0 HO2.out hC3); have hs3 := HC3.out.size; clear hC3) | (at_builtin; go_loud (refine app_own elAV rfl (.tmp 20) (.tmp 29) rfl w.heap.size m _ (ec (dvL more (xs.take i))) rfl HO3.out [.int .i64 x, .int .i64 ((m : Int) + 1 + more)] rfl (by simp [Value.oneCell']) w3.heap.size rfl rfl (by unfold maxLen; omega) (by omega) hs3 ?_); intro v' w4 hown4 hc4 hb4; have HOw := Lib.hid hown4; have HC4 := Lib.hid hc4; clear hown4 hc4 hb4))
        go_roundw
        case rel => exact ⟨i + 1, m + 1, by omega, by go_num, by omega, by rw [HT2.out]; exact HOw.out, HC3.out.trans' HC4.out (fun j hj e => absurd (own_lt HO.out j e).1 (by omega))⟩
        case measure => simp [intOf]; omega
      · have HT2 : Hid (dvL more (xs.take (i + 1)) = dvL more (xs.take i)) := Lib.hid (by rw [HT.out]; unfold dvAdd; rw [if_pos han])
        clear han
        go_wp2_with (go_at_call 10; rw [← HW2.out]; refine HCon.out.mono ?_; rintro r w3 ⟨rfl, hC3⟩; have HC3 := Lib.hid (HC2.out.trans hC3); have HO3 := Lib.hid (own_keep0 HO2.out hC3); clear hC3)
        go_roundw
        case rel => exact ⟨i + 1, m, by omega, by go_num, by omega, by rw [HT2.out]; exact HO3.out, HC3.out⟩
        case measure => simp [intOf]; omega
    · have hin : ¬ (i : Int) < (n : Nat) := by omega
      have hie : i = n := by omega
      have hO := HO.out
      rw [hie, ← HX.out, List.take_length] at hO
      have HO := Lib.hid hO
      clear hO hie
      go_wp2_with fail
      go_ret
      exact ⟨⟨_, rfl, by rw [own_ec HO.out]; exact HO.out⟩, HC.out⟩
end Go.Proofs.Ytlppnbmaedgodaa
