/- WALKS: a number put in. -/
import Derived.Test.YtpkeiankocimaaaIB
import Derived.Deep.RegionLaw
import Derived.Laws.CopyOwn
namespace Go.Proofs.Ytpkeiankocimaaa
open Go.RowKit Go.Sort
set_option linter.unusedVariables false
set_option linter.unusedSimpArgs false

theorem iv_getD' {xs : List Int} {j : Nat} {x : Int} (h : (iv xs)[j]? = some (.int .i64 x)) : xs[j]? = some x := by
  unfold iv at h
  rw [List.getElem?_map] at h
  cases hx : xs[j]? with
  | none => rw [hx] at h; cases h
  | some y => rw [hx] at h; simpa using h

theorem ins_cells (L : List Value) (s : List Int) (n k : Nat) (x y : Int) (hs : s.length = n) (hk : k < n) (hL : n + 1 ≤ L.length) (ht : L.take (n + 1) = iv s ++ [.int .i64 0]) (hy : s[k]? = some y) :
    (splice L (k + 1) ((iv s).drop k))[k]? = some (.int .i64 y) ∧ ∀ (j : Nat) (u : Value), (iv (s.take k ++ x :: s.drop k))[j]? = some u → ((splice L (k + 1) ((iv s).drop k)).toArray.setIfInBounds k (.int .i64 x))[j]? = some u := by
  have hl : (iv s).length = n := by simp [hs]
  have hkl : ((iv s).take k).length = k := by simp [hs]; omega
  have e0 : L.take (k + 1) = (iv s).take k ++ [.int .i64 y] := by
    have e1 : L.take (k + 1) = (L.take (n + 1)).take (k + 1) := by rw [List.take_take, Nat.min_eq_left (by omega)]
    rw [e1, ht, List.take_append_of_le_length (by omega), List.take_add_one, iv_at hy]
    rfl
  have e : splice L (k + 1) ((iv s).drop k) = (iv s).take k ++ (.int .i64 y :: ((iv s).drop k ++ L.drop (k + 1 + ((iv s).drop k).length))) := by
    unfold splice
    rw [e0]
    simp
  rw [e]
  refine ⟨?_, fun j u hj => ?_⟩
  · rw [List.getElem?_append_right (by omega), hkl, Nat.sub_self]
    rfl
  · rw [List.setIfInBounds_toArray, List.getElem?_toArray, List.set_append_right _ _ (by omega), hkl, Nat.sub_self, List.set_cons_zero]
    have e2 : iv (s.take k ++ x :: s.drop k) = (iv s).take k ++ (.int .i64 x :: (iv s).drop k) := by simp [iv]
    rw [e2] at hj
    have e3 : (iv s).take k ++ (Value.int .i64 x :: ((iv s).drop k ++ L.drop (k + 1 + ((iv s).drop k).length))) = ((iv s).take k ++ (.int .i64 x :: (iv s).drop k)) ++ L.drop (k + 1 + ((iv s).drop k).length) := by simp
    rw [e3, List.getElem?_append_left (List.getElem?_eq_some_iff.1 hj).1]
    exact hj
theorem min_of {a b c : Nat} (h1 : c = b) (h2 : b ≤ a) : c = Nat.min a b := by
  subst h1
  exact (Nat.min_eq_right h2).symm

set_option maxHeartbeats 1000000 in
set_option maxRecDepth 100000 in
theorem sInsert_any (base n : Nat) (v : Value) (s : List Int) (x : Int) (w : World) (hs : s.length = n) (h0 : 0 < n) (hn : n ≤ 100000) (hp : s.Pairwise (· < ·)) (hO : w.ownsRow base 2 1 v n (iv s)) (hbase : base ≤ w.heap.size) :
    Calls Try.prog 24 #[v, .int .i64 x] w fun r w' => ∃ A m c, r = .returned (.slice A m c) ∧ m = (insAt s x).length ∧ Rd w' A (iv (insAt s x)) ∧ Below base w w' := by
  obtain ⟨A, cap, rfl, hR, hcap, hA, hA2, _⟩ := own_rd hO
  obtain ⟨g0, rfl⟩ := hA2.resolve_left (by omega)
  have hg0 := (hA g0 0 none rfl).2
  have hSe := sSearch_any (some ⟨g0, 0, none⟩) n cap s x w hs (by omega) hp hR
  have hle := less_le s x
  obtain ⟨k, hk⟩ : ∃ k, k = less s x := ⟨_, rfl⟩
  rw [← hk] at hSe hle
  rw [hs] at hle
  have HS := Lib.hid hs
  have HR := Lib.hid hR
  have HO := Lib.hid hO
  have HSe := Lib.hid hSe
  have HK := Lib.hid hk
  have HB := Lib.hid hg0
  clear hR hO hSe hp hA hA2 hg0 hs hk
  have HBo : Hid (∀ j, j < base → ¬ (Value.slice (some ⟨g0, 0, none⟩) n cap).ownBlock = some j) := Lib.hid (fun j hj e => by
    have e2 : g0 = j := by simpa [Value.ownBlock] using e
    have := HB.out.1
    omega)
  by_cases hkn : k = n
  · have HI : Hid (insAt s x = s ++ [x]) := Lib.hid (by
      unfold insAt
      rw [← HK.out, hkn, ← HS.out]
      simp)
    subst hkn
    go_enter Try.func24, Try.ntmps24
    go_wp2_with (first | (go_at_call 23; refine HSe.out.mono ?_; rintro r w1 ⟨rfl, hC⟩; have HC := Lib.hid hC; clear hC) | (at_builtin; go_loud (refine app_own elS rfl (.tmp 13) (.tmp 15) rfl base k (.slice (some ⟨g0, 0, none⟩) k cap) (iv s) rfl (own_keep0 HO.out HC.out) [.int .i64 x] rfl (by simp [Value.oneCell']) _ rfl rfl (by unfold maxLen; omega) (by omega) (Nat.le_trans hbase HC.out.size) ?_); intro v' w4 hown4 hc4 hb4; have HOw := Lib.hid hown4; have HC4 := Lib.hid hc4; clear hown4 hc4 hb4))
    go_ret
    obtain ⟨A', c', rfl, hR', _⟩ := own_rd HOw.out
    refine ⟨A', _, c', rfl, by rw [HI.out]; simp [HS.out], ?_, (HC.out.below hbase (fun _ _ h => h)).trans (HC4.out.below (Nat.le_trans hbase HC.out.size) (fun j hj e => ?_))⟩
    · rw [HI.out]
      simpa [iv] using hR'
    · have e2 : g0 = j := by simpa [Value.ownBlock] using e
      have := HB.out.1
      omega
  · have hlt : k < n := by omega
    have hlti : (k : Int) < (n : Nat) := by omega
    have hki : ¬ (k : Int) = (n : Nat) := by omega
    have hkb : ((k : Int) == (n : Nat)) = false := by simp; omega
    obtain ⟨y, hy⟩ : ∃ y, s[k]? = some y := ⟨s[k]'(by have := HS.out; omega), by simp [HS.out, hlt]⟩
    by_cases hxy : y = x
    · have HI : Hid (insAt s x = s) := Lib.hid (by
        unfold insAt
        rw [← HK.out, hy, hxy, if_pos rfl])
      obtain ⟨q, o, e, c0⟩ := HR.out.at (iv_at hy)
      cases e
      rw [Nat.zero_add] at c0
      subst hxy
      have hyy : (y == y) = true := by simp
      have HY := Lib.hid hy
      clear hy
      go_enter Try.func24, Try.ntmps24
      go_wp2_with (go_at_call 23; refine HSe.out.mono ?_; rintro r w1 ⟨rfl, hC⟩; have c1 := (World.cell?_of_block (w := w) (w' := w1) (hC.block _ HB.out.2 (fun h => h))).trans c0; have HC := Lib.hid hC; clear hC)
      go_ret
      refine ⟨_, _, _, rfl, by rw [HI.out, HS.out], ?_, HC.out.below hbase (fun _ _ h => h)⟩
      rw [HI.out]
      exact HR.out.keep0 HC.out
    · have HI : Hid (insAt s x = s.take k ++ x :: s.drop k) := Lib.hid (by
        unfold insAt
        rw [← HK.out, hy, if_neg (by simpa using hxy)])
      obtain ⟨q, o, e, c0⟩ := HR.out.at (iv_at hy)
      cases e
      rw [Nat.zero_add] at c0
      have hyy : (y == x) = false := by simp [hxy]
      have HY := Lib.hid hy
      have HX := Lib.hid hxy
      clear hy
      have hk0 : (0 : Int) ≤ (k : Nat) + 1 := by omega
      have hk1 : (k : Int) + 1 ≤ (n : Nat) + 1 := by omega
      have hk2 : (k : Int) ≤ (n : Nat) + 1 := by omega
      go_enter Try.func24, Try.ntmps24
      go_wp2_with (first | (go_at_call 23; refine HSe.out.mono ?_; rintro r w1 ⟨rfl, hC⟩; have c1 := (World.cell?_of_block (w := w) (w' := w1) (hC.block _ HB.out.2 (fun h => h))).trans c0; have HC := Lib.hid hC; clear hC) | (at_builtin; go_loud (refine app_own elS rfl (.tmp 24) (.tmp 25) rfl base n (.slice (some ⟨g0, 0, none⟩) n cap) (iv s) rfl (own_keep0 HO.out HC.out) [.int .i64 0] rfl (by simp [Value.oneCell']) _ rfl rfl (by unfold maxLen; omega) (by omega) (Nat.le_trans hbase HC.out.size) ?_); intro v' w4 hown4 hc4 hb4; have hB4 := (HC.out.below hbase (fun _ _ h => h)).trans (hc4.below (Nat.le_trans hbase HC.out.size) (HBo.out)); have HB4 := Lib.hid hB4; have HOw := Lib.hid hown4; clear hown4 hc4 hb4 hB4))
      rcases HOw.out.2 with ⟨_, hz⟩ | ⟨g, c2, cur, rfl, hbg, hh, hnc, hcm, hsz2, htk⟩
      · omega
      have hcur : n + 1 ≤ cur.toList.length := by simp [hsz2]; omega
      have htk' : cur.toList.take (n + 1) = iv s ++ [.int .i64 0] := by rw [← htk, Nat.mul_one]
      obtain ⟨hz1, hz2⟩ := ins_cells cur.toList s n k x y HS.out hlt hcur htk' HY.out
      obtain ⟨cs, hcs⟩ : ∃ cs, cs = (iv s).drop k := ⟨_, rfl⟩
      rw [← hcs] at hz1 hz2
      have HZ1 := Lib.hid hz1
      have HZ2 := Lib.hid hz2
      have HN : Hid (cs.length = n - k) := Lib.hid (by rw [hcs]; simp [HS.out])
      have HF : Hid (k + 1 + cs.length ≤ cur.toList.length) := Lib.hid (by rw [HN.out]; omega)
      have H1 : Hid (∀ u ∈ cs, u.oneCell' = true) := Lib.hid (fun u hu => iv_one s u (List.mem_of_mem_drop (hcs ▸ hu)))
      have HH : Hid (w4.heap[g]? = some (.cells cur.toList.toArray 2 (0, 0))) := Lib.hid (by simpa using hh)
      have HSrc : Hid (∀ (j : Nat) (u : Value), cs[j]? = some u → w4.cell? ((⟨g, k, none⟩ : Addr).add j) = some u) := Lib.hid (fun j u hj => by
        rw [hcs, List.getElem?_drop] at hj
        have hjl := (List.getElem?_eq_some_iff.1 hj).1
        rw [iv_length, HS.out] at hjl
        have e2 : (⟨g, k, none⟩ : Addr).add j = ⟨g, k + j, none⟩ := by
          unfold Addr.add
          by_cases hx : j = 0
          · simp [hx]
          · simp [hx]
        rw [e2]
        have e3 : cur.toList[k + j]? = some u := by
          have this : (cur.toList.take (n + 1))[k + j]? = (iv s ++ [Value.int .i64 0])[k + j]? := by rw [htk']
          rw [List.getElem?_take_of_lt (by omega), List.getElem?_append_left (by simp [HS.out]; omega), hj] at this
          exact this
        simp only [World.cell?, hh]
        simpa using e3)
      have HU : Hid (Try.prog.underlying 55 = some (.slice 2)) := Lib.hid Try.underlying55
      have HZ : Hid ((Try.prog.info? 2).map (·.size) = some 1) := Lib.hid (by kernel_rfl)
      have hbb := Lib.hid hbg
      have hwk : IntKind.i64.wrap ((k : Int) + 1) = (k : Int) + 1 := IntWalk.i64_in _ (by omega)
      have htn : ((k : Int) + 1).toNat = k + 1 := by omega
      have hd1 : ¬ c2 = k := by omega
      have hd2 : ¬ c2 = k + 1 := by omega
      obtain ⟨w5, hrun, hB5, hb5⟩ : ∃ w5, (Builtin.copy_ #[55, 55] 3 #[.slice (some ⟨g, k + 1, none⟩) (n - k) (c2 - (k + 1)), .slice (some ⟨g, k, none⟩) (n + 1 - k) (c2 - k)]).run Try.prog w4.drew = .ok (goInt cs.length) w5 ∧ Blk w5 g (splice cur.toList (k + 1) cs).toArray ∧ Below base w w5 := by
        have hh2 : w4.drew.heap[g]? = some (.cells cur 2 (0, 0)) := hh
        refine ⟨_, run_copy_row (P := Try.prog) w4.drew 55 55 3 2 g (k + 1) (n - k) (c2 - (k + 1)) ⟨g, k, none⟩ (n + 1 - k) (c2 - k) cur 2 cs HU.out HZ.out hh2 (min_of HN.out (by omega)) HSrc.out (by simpa using HF.out) H1.out, ⟨2, ?_⟩, below_setRow HB4.out.drew hbg _⟩
        simpa [splice] using setRow_heap w4.drew g _ _ 2 _ hh2
      have c5 := (hB5.cell k).trans (List.getElem?_toArray.trans HZ1.out)
      have f5 := hB5.free k
      have HB5 := Lib.hid hB5
      have HBe := Lib.hid hb5
      have hcl : goInt cs.length = .int .i64 ((n - k : Nat) : Int) := by rw [HN.out]; rfl
      rw [hcl] at hrun
      clear hz1 hz2 hcs hh htk htk' hsz2 hcm hcur HOw hB5 hb5 hcl
      go_region_law (fail)
      go_wp2_with fail
      go_ret
      refine ⟨some ⟨g, 0, none⟩, n + 1, c2, rfl, by rw [HI.out]; simp [HS.out]; omega, fun j u hj => ⟨g, 0, rfl, ?_⟩, HBe.out.setCell hbb.out _⟩
      rw [Nat.zero_add, (HB5.out.set k _).cell j]
      rw [HI.out] at hj
      exact HZ2.out j u hj

set_option maxRecDepth 100000 in
theorem isInsert_any (A : Option Addr) (n c : Nat) (s : List Int) (x : Int) (w : World) (hs : s.length = n) (h0 : 0 < n) (hn : n ≤ 100000) (hp : s.Pairwise (· < ·)) (hR : Rd w A (iv s)) :
    Calls Try.prog 11 #[.slice A n c, .int .i64 x] w fun r w' => ∃ A' m c', r = .returned (.slice A' m c') ∧ m = (insAt s x).length ∧ Rd w' A' (iv (insAt s x)) ∧ Ch S0 w w' := by
  have HS := Lib.hid hs
  have HR := Lib.hid hR
  have HP := Lib.hid hp
  clear hs hR hp
  go_enter Try.func11, Try.ntmps11
  go_wp2_with fail
  refine (ints_any A n c s _ HS.out h0 (by omega) HR.out).mono ?_
  rintro r w1 ⟨v, rfl, hO, hC⟩
  have HO := Lib.hid hO
  have HC := Lib.hid hC
  clear hO hC
  go_wp2_with fail
  refine (sInsert_any w.heap.size n v s x _ HS.out h0 hn HP.out HO.out HC.out.size).mono ?_
  rintro r w2 ⟨A', m, c', rfl, hm, hR2, hB2⟩
  have HM := Lib.hid hm
  have HR2 := Lib.hid hR2
  have HC2 : Hid (Ch S0 w w2) := Lib.hid ⟨hB2.os.trans HC.out.os, hB2.tape.trans HC.out.tape, hB2.output.trans HC.out.output, Nat.le_trans HC.out.size hB2.size, fun k hk hn => (hB2.block k hk).trans (HC.out.block k hk hn)⟩
  clear hm hR2 hB2
  go_wp2_with fail
  go_ret
  exact ⟨_, _, _, rfl, HM.out, HR2.out, HC2.out⟩
end Go.Proofs.Ytpkeiankocimaaa
