/- WALKS: elements by their Keys; steps that put them; a step that takes some out. -/
import Derived.Test.YtpkeiankocimaaaDoorJ
import Derived.Test.YtpkeiankocimaaaDoorD1
namespace Go.Proofs.YtpkeiankocimaaaDoor
open Go.RowKit
set_option linter.unusedVariables false
set_option linter.unusedSimpArgs false

/-- Elements by their Keys: the Tag is the place. -/
def elems (xs : List Int) (i : Nat) : List El := (List.range i).map fun j => (xs.getD j 0, (j : Int))
@[simp] theorem elems_len (xs : List Int) (i : Nat) : (elems xs i).length = i := by simp [elems]
theorem elems_succ (xs : List Int) (i : Nat) {x : Int} (h : xs[i]? = some x) : elems xs (i + 1) = elems xs i ++ [(x, (i : Int))] := by
  have e : xs.getD i 0 = x := by simp [List.getD, h]
  unfold elems
  rw [List.range_succ, List.map_append]
  simp only [List.map_cons, List.map_nil, e]
theorem elems_nodup (xs : List Int) (i : Nat) : (elems xs i).Nodup := by
  unfold elems
  rw [List.Nodup, List.pairwise_map]
  have h := List.nodup_range (n := i)
  exact h.imp fun hne e => hne (by have := congrArg Prod.snd e; simp only at this; omega)

set_option maxRecDepth 100000 in
theorem items_any (A : Option Addr) (n c : Nat) (xs : List Int) (w : World) (hx : xs.length = n) (hn : n ≤ 1000000) (hA : Rd w A (sv xs)) (h16 : is16 xs) :
    Calls Tryd.prog 8 #[.slice A n c, .int .i64 0] w fun r w' => ∃ v, r = .returned v ∧ w'.ownsRow w.heap.size 38 2 v n (pv (elems xs n)) ∧ Ch S0 w w' := by
  have HX := Lib.hid hx
  have HA := Lib.hid hA
  have H16 := Lib.hid h16
  clear hx hA h16
  go_enter Tryd.func8, Tryd.ntmps8
  go_wp2_with fail
  go_loopw [5, 10] (fun vo vi wr => ∃ i : Nat, i ≤ n ∧ vi = .int .i64 i ∧ wr.ownsRow w.heap.size 38 2 vo i (pv (elems xs i)) ∧ Ch S0 w wr) (fun _ vi _ => n - (intOf vi).toNat)
  case atStart => exact ⟨0, by omega, rfl, World.ownsRow_nil _ _ _ _, Ch.refl _ _⟩
  case round =>
    obtain ⟨i, hi, rfl, hO, hC⟩ := hrel
    have HO := Lib.hid hO
    have HC := Lib.hid hC
    clear hO hC
    by_cases hlt : i < n
    · have hlti : (i : Int) < (n : Nat) := by omega
      obtain ⟨x, hx⟩ : ∃ x, xs[i]? = some x := ⟨xs[i]'(by have := HX.out; omega), by simp [HX.out, hlt]⟩
      obtain ⟨q, o, hAe, c0⟩ := (HA.out.keep0 HC.out).at (sv_at hx)
      subst hAe
      obtain ⟨b1, b2⟩ := H16.out x (List.mem_of_getElem? hx)
      have HT : Hid (pv (elems xs (i + 1)) = pv (elems xs i) ++ [.int .i64 x, .int .i64 i]) := Lib.hid (by rw [elems_succ xs i hx]; exact pv_snoc _ _)
      have hsz := HC.out.size
      clear hx
      go_wp2_with (at_builtin; go_loud (refine app_own elEl rfl (.tmp 15) (.tmp 22) rfl w.heap.size i u5 (pv (elems xs i)) rfl HO.out [.int .i64 x, .int .i64 i] rfl (by simp [Value.oneCell']) _ rfl rfl (by unfold maxLen; omega) (by omega) hsz ?_); intro v' w4 hown4 hc4 hb4; have HOw := Lib.hid hown4; have HC4 := Lib.hid hc4; clear hown4 hc4 hb4)
      go_roundw
      case rel => exact ⟨i + 1, by omega, by go_num, by rw [HT.out]; exact HOw.out, HC.out.trans' HC4.out (fun j hj hs => absurd (own_lt HO.out j hs).1 (by omega))⟩
      case measure => simp [intOf]; omega
    · have hin : ¬ (i : Int) < (n : Nat) := by omega
      have hie : i = n := by omega
      go_wp2_with fail
      go_ret
      refine ⟨_, rfl, ?_, HC.out⟩
      have := HO.out
      rwa [hie] at this

/-- Steps, their elements in old memory. -/
def Olds (w wr : World) (ss : List St) : Prop := ∀ s ∈ ss, St1 wr (fun k => w.heap.size ≤ k) s
theorem Olds.keep {w wr w' : World} {S : Nat → Prop} {ss : List St} (h : Olds w wr ss) (hc : Ch S wr w') (hs : ∀ k, S k → w.heap.size ≤ k) : Olds w w' ss := fun s hm => (h s hm).keep hc hs

set_option maxRecDepth 100000 in
set_option maxHeartbeats 4000000 in
theorem clone_st (b o N c : Nat) (ss : List St) (w : World) (hN : ss.length = N) (hN0 : 0 < N) (hN2 : N ≤ 100000) (hA : Rd w (some ⟨b, o, none⟩) (stCells ss)) :
    Calls Tryd.prog 16 #[.slice (some ⟨b, o, none⟩) N c] w fun r w' => ∃ v, r = .returned v ∧ w'.ownsRow w.heap.size 32 3 v N (stCells ss) ∧ Ch S0 w w' := by
  have hnn : ∀ w, (binOp .eql 29 (.slice (some ⟨b, o, none⟩) N c) (.slice none 0 0)).run Tryd.prog w = .ok (.bool false) w := fun w => by kernel_rfl
  have h0 : (w.alloc (.cells #[] 32)).ownsRow w.heap.size 32 3 (.slice (some ⟨w.heap.size, 0, none⟩) 0 0) 0 [] := World.ownsRow_made w (e := 32) (size := 3) (base := w.heap.size) #[] 0 (Nat.le_refl _) (by unfold maxLen; omega) (by simp)
  have HO0 := Lib.hid h0
  have HA := Lib.hid (hA.keep0 ((Ch.refl S0 w).alloc (.cells #[] 32)))
  have HN := Lib.hid hN
  clear hA hN h0
  go_enter Tryd.func16, Tryd.ntmps16
  go_wp2_with (at_builtin; go_loud (refine app_all elSt rfl (.tmp 5) (.tmp 6) rfl w.heap.size 0 (.slice (some ⟨w.heap.size, 0, none⟩) 0 0) [] rfl HO0.out b o N c (stCells ss) (by rw [stC_len, HN.out]) (st_one ss) rfl HA.out (by unfold maxLen; omega) (by omega) (by simp only [World.size_alloc]; omega) ?_); intro v' w4 hown4 hc4 hb4 _; have HOw := Lib.hid hown4; have HC4 := Lib.hid hc4; clear hown4 hc4 hb4)
  go_ret
  refine ⟨_, rfl, ?_, ?_⟩
  · have := HOw.out
    simpa using this
  · exact ((Ch.refl S0 w).alloc _).trans' HC4.out (fun j hj e => by simp [Value.ownBlock] at e; omega)

theorem olds_snoc {w wr : World} {ss : List St} {s : St} (h : Olds w wr ss) (hs : St1 wr (fun k => w.heap.size ≤ k) s) : Olds w wr (ss ++ [s]) := fun t ht => by
  rcases List.mem_append.1 ht with ht | ht
  · exact h t ht
  · obtain rfl : t = s := by simpa using ht
    exact hs

set_option maxRecDepth 100000 in
theorem takes_any (b o N c : Nat) (m : Nat) (ss : List St) (w : World) (hN : ss.length = N) (hN0 : 0 < N) (hN2 : N ≤ 100000) (hA : Rd w (some ⟨b, o, none⟩) (stCells ss)) :
    Calls Tryd.prog 11 #[.slice (some ⟨b, o, none⟩) N c, .int .i64 m] w fun r w' => ∃ v, r = .returned v ∧ w'.ownsRow w.heap.size 32 3 v (N + 1) (stCells (ss ++ [⟨2, m, none, 0, 0, []⟩])) ∧ Ch S0 w w' := by
  have HC := Lib.hid (clone_st b o N c ss w hN hN0 hN2 hA)
  clear hA hN
  go_enter Tryd.func11, Tryd.ntmps11
  go_wp2_with fail
  refine HC.out.mono ?_
  rintro r w1 ⟨v, rfl, hO, hC1⟩
  have hsz := hC1.size
  have HO := Lib.hid hO
  have HC1 := Lib.hid hC1
  clear hO hC1
  go_wp2_with (at_builtin; go_loud (refine app_own elSt rfl (.tmp 6) (.tmp 9) rfl w.heap.size N v (stCells ss) rfl HO.out [.int .i64 2, .int .i64 m, .slice none 0 0] rfl (by simp [Value.oneCell']) _ rfl rfl (by unfold maxLen; omega) (by omega) hsz ?_); intro v' w4 hown4 hc4 hb4; have HOw := Lib.hid hown4; have HC4 := Lib.hid hc4; clear hown4 hc4 hb4)
  go_ret
  refine ⟨_, rfl, ?_, HC1.out.trans' HC4.out (fun j hj e => absurd (own_lt HO.out j e).1 (by omega))⟩
  rw [st_snoc]
  exact HOw.out

/-- Steps that put these elements. -/
structure Puts (w wr : World) (vo : Value) (ss : List St) (m : Nat) (its : List El) : Prop where
  own : wr.ownsRow w.heap.size 32 3 vo m (stCells ss)
  len : ss.length = m
  put : ∀ s ∈ ss, isPut s
  its : items ss = its
  old : Olds w wr ss
theorem pv_drop (a : List El) (n : Nat) : pv (a.drop n) = (pv a).drop (2 * n) := by
  induction a generalizing n with
  | nil => simp [pv]
  | cons x a ih =>
    cases n with
    | zero => simp
    | succ n =>
      have := ih n
      have e : pv (x :: a) = .int .i64 x.1 :: .int .i64 x.2 :: pv a := by simp [pv]
      rw [e, show 2 * (n + 1) = 2 * n + 1 + 1 by omega, List.drop_succ_cons, List.drop_succ_cons, List.drop_succ_cons]
      exact this
theorem pv_take (a : List El) (n : Nat) : pv (a.take n) = (pv a).take (2 * n) := by
  induction a generalizing n with
  | nil => simp [pv]
  | cons x a ih =>
    cases n with
    | zero => simp [pv]
    | succ n =>
      have := ih n
      have e : pv (x :: a) = .int .i64 x.1 :: .int .i64 x.2 :: pv a := by simp [pv]
      have e2 : ∀ a, pv (x :: a) = .int .i64 x.1 :: .int .i64 x.2 :: pv a := fun a => by simp [pv]
      rw [e, show 2 * (n + 1) = 2 * n + 1 + 1 by omega, List.take_succ_cons, List.take_succ_cons, List.take_succ_cons, e2, this]

theorem puts_step {w wr w4 : World} {v v' : Value} {ss : List St} {m n n' k b o' c' : Nat} {its its' : List El} (hP : Puts w wr v ss m (its.take (n - n'))) (hO : w4.ownsRow w.heap.size 32 3 v' (m + 1) (stCells ss ++ [.int .i64 1, .int .i64 0, .slice (some ⟨b, o', none⟩) k c']))
    (hC : Ch (fun k => v.ownBlock = some k) wr w4) (hits : its' = its.drop (n - n')) (hR : Rd wr (some ⟨b, o', none⟩) (pv its')) (hl : its'.length = n') (hk : k ≤ n') (hk0 : 0 < k) (hb : b < w.heap.size) (hn : its.length = n) (hnn : n' ≤ n) :
    Puts w w4 v' (ss ++ [⟨1, 0, some ⟨b, o', none⟩, k, c', its'.take k⟩]) (m + 1) (its.take (n - (n' - k))) := by
  have hv : ∀ g, v.ownBlock = some g → w.heap.size ≤ g := fun g hg => (own_lt hP.own g hg).1
  have hR4 : Rd w4 (some ⟨b, o', none⟩) (pv its') := hR.keep hC (fun b' o e h => by cases e; have := hv _ h; omega)
  refine ⟨?_, by simp [hP.len], fun s hs => ?_, ?_, olds_snoc (hP.old.keep hC (fun k hk => hv k hk)) ⟨?_, ?_, fun b' o e => ?_⟩⟩
  · rw [st_snoc]
    exact hO
  · rcases List.mem_append.1 hs with hs | hs
    · exact hP.put s hs
    · obtain rfl : s = _ := by simpa using hs
      refine ⟨rfl, ?_⟩
      show 0 < (its'.take k).length
      rw [List.length_take]
      omega
  · have e : items (ss ++ [⟨1, 0, some ⟨b, o', none⟩, k, c', its'.take k⟩]) = items ss ++ its'.take k := by simp [items]
    rw [e, hP.its, hits, show n - (n' - k) = (n - n') + k by omega, List.take_add]
  · show (its'.take k).length = k
    rw [List.length_take]
    omega
  · show Rd w4 _ (pv (its'.take k))
    rw [pv_take]
    exact hR4.take _
  · cases e
    exact fun h => by have h : w.heap.size ≤ b := h; omega
theorem puts_rest {wr : World} {b o' c' k n' : Nat} {its' : List El} (hR : Rd wr (some ⟨b, o', none⟩) (pv its')) (hl : its'.length = n') (hk : k ≤ n') (hnc : n' ≤ c') :
    ∃ o'', (if c' = k then some (⟨b, o', none⟩ : Addr) else some ⟨b, o' + k * 2, none⟩) = some ⟨b, o'', none⟩ ∧ Rd wr (some ⟨b, o'', none⟩) (pv (its'.drop k)) := by
  by_cases h : c' = k
  · refine ⟨o', by rw [if_pos h], ?_⟩
    have e : its'.drop k = [] := List.drop_eq_nil_iff.2 (by omega)
    rw [e]
    exact Rd.nil _ _
  · refine ⟨o' + k * 2, by rw [if_neg h], ?_⟩
    rw [pv_drop, Nat.mul_comm]
    exact hR.drop _
set_option maxRecDepth 100000 in
set_option maxHeartbeats 4000000 in
theorem puts_any (b o n c most : Nat) (its : List El) (w : World) (hn : its.length = n) (hn0 : 0 < n) (hnc : n ≤ c) (hn2 : n ≤ 10000) (hm0 : 0 < most) (hm : most ≤ 10000) (hA : Rd w (some ⟨b, o, none⟩) (pv its)) :
    Calls Tryd.prog 9 #[.slice (some ⟨b, o, none⟩) n c, .int .i64 most] w fun r w' => (∃ v ss m, r = .returned v ∧ Puts w w' v ss m its ∧ 0 < m ∧ m ≤ n) ∧ Ch S0 w w' := by
  have HN := Lib.hid hn
  have HA := Lib.hid hA
  have hbl : b < w.heap.size := by
    obtain ⟨b', o', e, h⟩ := hA.lt (by rw [pv_len]; omega)
    cases e
    exact h
  clear hn hA
  go_enter Tryd.func9, Tryd.ntmps9
  go_wp2_with fail
  go_loopw [0, 5] (fun vl vo wr => ∃ (n' o' c' m : Nat) (ss : List St) (its' : List El), vl = .slice (some ⟨b, o', none⟩) n' c' ∧ n' ≤ c' ∧ its'.length = n' ∧ m + n' ≤ n ∧ Puts w wr vo ss m (its.take (n - n')) ∧ its' = its.drop (n - n') ∧ Rd wr (some ⟨b, o', none⟩) (pv its') ∧ Ch S0 w wr) (fun vl _ _ => match vl with | .slice _ n _ => n | _ => 0)
  case atStart => exact ⟨n, o, c, 0, [], its, rfl, hnc, HN.out, by omega, ⟨World.ownsRow_nil _ _ _ _, rfl, by simp, by simp [items], fun _ h => by cases h⟩, by simp, HA.out, Ch.refl _ _⟩
  case round =>
    obtain ⟨n', o', c', m, ss, its', rfl, hnc', hl, hmn, hP, hits, hR, hC⟩ := hrel
    have HP := Lib.hid hP
    have HL := Lib.hid hl
    have HIts := Lib.hid hits
    have HR := Lib.hid hR
    have HC := Lib.hid hC
    have hsz := hC.size
    clear hP hl hits hR hC
    by_cases h0 : 0 < n'
    · have h0i : (0 : Int) < (n' : Nat) := by omega
      obtain ⟨k, hk⟩ : ∃ k, k = min most n' := ⟨_, rfl⟩
      have hk1 : k ≤ n' := by omega
      have hk0 : 0 < k := by omega
      have HK := Lib.hid hk
      clear hk
      by_cases hlt : (n' : Int) < (most : Nat)
      · go_wp2_with (at_builtin; go_loud (refine app_own elSt rfl (.tmp 14) (.tmp 19) rfl w.heap.size m u5 (stCells ss) rfl HP.out.own [.int .i64 1, .int .i64 0, .slice (some ⟨b, o', none⟩) n' c'] rfl (by simp [Value.oneCell']) _ rfl rfl (by unfold maxLen; omega) (by omega) hsz ?_); intro v' w4 hown4 hc4 hb4; have HOw := Lib.hid hown4; have HC4 := Lib.hid hc4; clear hown4 hc4 hb4)
        go_roundw
        case rel =>
          obtain ⟨o'', e1, e2⟩ := puts_rest (k := n') HR.out HL.out (by omega) hnc'
          rw [e1]
          have hv : ∀ g, u5.ownBlock = some g → w.heap.size ≤ g := fun g hg => (own_lt HP.out.own g hg).1
          refine ⟨n' - n', o'', c' - n', m + 1, _, _, by first | rfl | simp, by omega, ?_, by omega, puts_step HP.out HOw.out HC4.out HIts.out HR.out HL.out (by omega) (by omega) hbl HN.out (by omega), rfl, ?_, HC.out.trans' HC4.out (fun j hj e => absurd (hv j e) (by omega))⟩
          · rw [List.length_drop, HN.out]
            omega
          · have e3 : its.drop (n - (n' - n')) = its'.drop n' := by rw [HIts.out, List.drop_drop]; congr 1; omega
            rw [e3]
            exact e2.keep HC4.out (fun b' o e h => by cases e; have := hv _ h; omega)
        case measure => first | (simp only; omega) | (show (0 : Nat) < n'; omega)
      · go_wp2_with (at_builtin; go_loud (refine app_own elSt rfl (.tmp 14) (.tmp 19) rfl w.heap.size m u5 (stCells ss) rfl HP.out.own [.int .i64 1, .int .i64 0, .slice (some ⟨b, o', none⟩) most c'] rfl (by simp [Value.oneCell']) _ rfl rfl (by unfold maxLen; omega) (by omega) hsz ?_); intro v' w4 hown4 hc4 hb4; have HOw := Lib.hid hown4; have HC4 := Lib.hid hc4; clear hown4 hc4 hb4)
        go_roundw
        case rel =>
          obtain ⟨o'', e1, e2⟩ := puts_rest (k := most) HR.out HL.out (by omega) hnc'
          rw [e1]
          have hv : ∀ g, u5.ownBlock = some g → w.heap.size ≤ g := fun g hg => (own_lt HP.out.own g hg).1
          refine ⟨n' - most, o'', c' - most, m + 1, _, _, by first | rfl | simp, by omega, ?_, by omega, puts_step HP.out HOw.out HC4.out HIts.out HR.out HL.out (by omega) (by omega) hbl HN.out (by omega), rfl, ?_, HC.out.trans' HC4.out (fun j hj e => absurd (hv j e) (by omega))⟩
          · rw [List.length_drop, HN.out]
            omega
          · have e3 : its.drop (n - (n' - most)) = its'.drop most := by rw [HIts.out, List.drop_drop]; congr 1; omega
            rw [e3]
            exact e2.keep HC4.out (fun b' o e h => by cases e; have := hv _ h; omega)
        case measure => first | (simp only; omega) | (show (0 : Nat) < n'; omega)
    · have h0i : ¬ (0 : Int) < (n' : Nat) := by omega
      have h00 : n' = 0 := by omega
      go_wp2_with fail
      go_ret
      have h1 := HP.out
      have h2 := HL.out
      rw [h00, Nat.sub_zero, ← HN.out, List.take_length] at h1
      refine ⟨⟨_, rfl, ss, m, h1, ?_, by omega⟩, HC.out⟩
      rcases Nat.eq_zero_or_pos m with e | e
      · exfalso
        have h3 := h1.len
        rw [e] at h3
        have h4 := List.eq_nil_of_length_eq_zero h3
        have h5 := h1.its
        rw [h4] at h5
        have h6 := HN.out
        rw [← h5] at h6
        simp [items] at h6
        omega
      · exact e
end Go.Proofs.YtpkeiankocimaaaDoor
