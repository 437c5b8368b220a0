/- WALKS: dxQueue: the Keys as they come out when all elements are put at once. -/
import Derived.Test.YtpkeiankocimaaaDoorK2
namespace Go.Proofs.YtpkeiankocimaaaDoor
open Go.RowKit
set_option linter.unusedVariables false
set_option linter.unusedSimpArgs false

def known : List El := [(5, 0), (3, 1)]
theorem srt_of_perm {xs ys : List Int} (h : xs.Perm ys) (hs : ys.Pairwise (· ≤ ·)) : srt xs = ys := sorted_eq (srt_sorted xs) hs ((srt_perm xs).trans h)
theorem known_keys : srt (keys known) = [3, 5] := srt_of_perm (by decide) (by decide)
theorem Olds.none {w wr : World} {ss : List St} (h : Olds w wr ss) : ∀ s ∈ ss, St1 wr noB s := fun s hs => ⟨(h s hs).1, (h s hs).2.1, fun _ _ _ h => h⟩
theorem row_rd {w : World} {base : Nat} {v : Value} {N : Nat} {e size : Nat} {xs : List Value} (h : w.ownsRow base e size v N xs) (h0 : 0 < N) : ∃ b c, v = .slice (some ⟨b, 0, none⟩) N c ∧ Rd w (some ⟨b, 0, none⟩) xs ∧ N ≤ c ∧ base ≤ b ∧ b < w.heap.size := by
  obtain ⟨A, c, rfl, hR, hc, hA, hA2, _⟩ := own_rd h
  obtain ⟨b, rfl⟩ := hA2.resolve_left (by omega)
  exact ⟨b, c, rfl, hR, hc, (hA b 0 none rfl).2⟩
/-- The step that takes m out. -/
abbrev tk (m : Nat) : St := ⟨2, m, none, 0, 0, []⟩
theorem St1.tk (w : World) (m : Nat) (av : Nat → Prop) : St1 w av (tk m) := ⟨rfl, Rd.nil _ _, fun b o e => by cases e⟩
theorem isGet_tk (m : Nat) : isGet (tk m) m := ⟨rfl, rfl⟩
theorem keys_srt_len (its : List El) : (srt (keys its)).length = its.length := by rw [srt_len, keys_len]

set_option maxRecDepth 100000 in
set_option maxHeartbeats 8000000 in
theorem queue_any (b o n c : Nat) (its : List El) (w : World) (hn : its.length = n) (hn0 : 0 < n) (hnc : n ≤ c) (hn2 : n ≤ 1000) (hA : Rd w (some ⟨b, o, none⟩) (pv its)) :
    Calls Tryd.prog 7 #[.slice (some ⟨b, o, none⟩) n c] w fun r w' => GotX w (srt (keys its)) r w' := by
  obtain ⟨W1, hW1⟩ : ∃ W1, W1 = (w.alloc (.cells #[.int .i64 5, .int .i64 0, .int .i64 3, .int .i64 1] 38)).alloc (.cells #[.int .i64 1, .int .i64 0, .slice (some ⟨w.heap.size, 0, none⟩) 2 2, .int .i64 2, .int .i64 9, .slice none 0 0] 32) := ⟨_, rfl⟩
  have hC1 : Ch S0 w W1 := by rw [hW1]; exact ((Ch.refl _ _).alloc _).alloc _
  have hR0 : Rd W1 (some ⟨w.heap.size, 0, none⟩) (pv known) := by
    rw [hW1]
    exact (Rd.new w (pv known) 38).keep0 ((Ch.refl S0 _).alloc _)
  have hR1 : Rd W1 (some ⟨w.heap.size + 1, 0, none⟩) (stCells ([⟨1, 0, some ⟨w.heap.size, 0, none⟩, 2, 2, known⟩] ++ [tk 9])) := by
    rw [hW1]
    have := Rd.new (w.alloc (.cells #[.int .i64 5, .int .i64 0, .int .i64 3, .int .i64 1] 38)) (stCells ([⟨1, 0, some ⟨w.heap.size, 0, none⟩, 2, 2, known⟩] ++ [tk 9])) 32
    rw [World.size_alloc] at this
    exact this
  obtain ⟨hf, hk⟩ := puts_take_one (dup := true) (ss := [⟨1, 0, some ⟨w.heap.size, 0, none⟩, 2, 2, known⟩]) (s := tk 9) (l := known) (k := 9) (by intro t ht; obtain rfl := List.mem_singleton.1 ht; exact ⟨rfl, by show 0 < known.length; decide⟩) (by simp [items]) (isGet_tk 9) (by omega) (by decide) (by decide) (Or.inl rfl)
  have hg := got_any 0 2 2 (w.heap.size + 1) 0 true _ _ W1 (by omega) rfl (by omega) (by omega) hR1 (by
    intro s hs
    rcases List.mem_append.1 hs with hs | hs
    · obtain rfl := List.mem_singleton.1 hs
      exact ⟨rfl, hR0, fun _ _ _ h => h⟩
    · obtain rfl := List.mem_singleton.1 hs
      exact St1.tk _ _ _) hf hk (by rw [keys_srt_len]; decide)
  rw [known_keys] at hg
  have HG := Lib.hid hg
  have HW1 := Lib.hid hW1
  have HC1 := Lib.hid hC1
  have HA := Lib.hid hA
  have HN := Lib.hid hn
  clear hW1 hC1 hR0 hR1 hf hk hg hA hn
  go_enter Tryd.func7, Tryd.ntmps7
  go_wp2_with fail
  rw [← HW1.out]
  refine HG.out.mono ?_
  rintro r w2 ⟨A2, m2, c2, rfl, hm2, hR2, hC2⟩
  have hm2 : 2 = m2 := hm2
  subst hm2
  have HR2 := Lib.hid hR2
  have HC2 := Lib.hid (HC1.out.trans hC2)
  clear hR2 hC2
  go_wp2_with fail
  refine (puts_any b o n c n its _ HN.out hn0 hnc (by omega) hn0 (by omega) (HA.out.keep0 HC2.out)).mono ?_
  rintro r w3 ⟨⟨v, ss, m, rfl, hP, hm0, hmn⟩, hC3⟩
  obtain ⟨b3, c3, rfl, hR3, _, _, _⟩ := row_rd hP.own hm0
  have HP := Lib.hid hP
  have HR3 := Lib.hid hR3
  have HC3 := Lib.hid hC3
  clear hP hR3 hC3
  go_wp2_with fail
  refine (takes_any b3 0 m c3 1000 ss _ HP.out.len hm0 (by omega) HR3.out).mono ?_
  rintro r w4 ⟨v4, rfl, hO4, hC4⟩
  obtain ⟨b4, c4, rfl, hR4, _, _, _⟩ := row_rd hO4 (by omega)
  have HO4 := Lib.hid (HP.out.old.keep hC4 (fun _ h => h.elim)).none
  have HR4 := Lib.hid hR4
  have HC4 := Lib.hid ((HC2.out.trans HC3.out).trans hC4)
  have HR2b := Lib.hid ((HR2.out.keep0 HC3.out).keep0 hC4)
  clear hO4 hR4 hC4
  obtain ⟨hf, hk⟩ := puts_take_one (dup := true) (s := tk 1000) HP.out.put HP.out.its (isGet_tk 1000) (by omega) (by rw [HN.out]; exact hn0) (by rw [HN.out]; exact hn2) (Or.inl rfl)
  have hg := got_any 0 (m + 1) c4 b4 0 true _ _ w4 (by omega) (by simp [HP.out.len]) (by omega) (by omega) HR4.out (fun s hs => by
    rcases List.mem_append.1 hs with hs | hs
    · exact HO4.out s hs
    · obtain rfl := List.mem_singleton.1 hs
      exact St1.tk _ _ _) hf hk (by rw [keys_srt_len, HN.out]; omega)
  have HG := Lib.hid hg
  clear hf hk hg
  go_wp2_with fail
  refine HG.out.mono ?_
  rintro r w5 ⟨A5, m5, c5, rfl, hm5, hR5, hC5⟩
  have HM5 := Lib.hid hm5
  have HR5 := Lib.hid hR5
  have HC5 := Lib.hid (HC4.out.trans hC5)
  have HR2c := Lib.hid (HR2b.out.keep0 hC5)
  clear hm5 hR5 hC5
  go_wp2_with fail
  refine (equal_int A2 _ 2 2 c2 _ [3, 5] [3, 5] _ rfl rfl (by omega) (by omega) (HR2c.out.keep0 ((Ch.refl S0 _).alloc _)) (Rd.new w5 (iv [3, 5]) 3)).mono ?_
  rintro r w6 ⟨rfl, hC6⟩
  have e : decide (([3, 5] : List Int) = [3, 5]) = true := by decide
  rw [e]
  have hC6' := ((Ch.refl S0 w5).alloc (.cells #[.int .i64 3, .int .i64 5] 3)).trans hC6
  have HC6 := Lib.hid (HC5.out.trans hC6')
  have HR6 := Lib.hid (HR5.out.keep0 hC6')
  clear e hC6 hC6'
  go_wp2_with fail
  refine bodyPost_ret (v := .tuple #[.slice A5 m5 c5, .bool true]) (by simp [results, Tryd.results7, go_sem]) rfl ?_
  exact ⟨_, _, _, rfl, HM5.out, HR6.out, HC6.out⟩
end Go.Proofs.YtpkeiankocimaaaDoor
