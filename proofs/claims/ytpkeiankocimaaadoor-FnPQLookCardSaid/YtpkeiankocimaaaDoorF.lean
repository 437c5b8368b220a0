/- WALKS: elements put into a queue; a look at it; a new one. -/
import Derived.Test.YtpkeiankocimaaaDoorE
namespace Go.Proofs.YtpkeiankocimaaaDoor
open Go.RowKit
set_option linter.unusedVariables false
set_option linter.unusedSimpArgs false

theorem ev_get {a : List El} {i : Nat} {x : El} (h : a[i]? = some x) : (ev a)[i]? = some (kV x) := by simp [ev, h, en_kV]
/-- What is told by Put. -/
def PutR (w : World) (base q g mb : Nat) (dup : Bool) (a its : List El) (w' : World) : Prop := ∃ g' cap' n' a', QS w' base q n' cap' g' mb dup a' ∧ a'.Perm (a ++ its) ∧ (g' = g ∨ w.heap.size ≤ g')

theorem QS.pushed {w w1 w2 : World} {base q n cap g mb n1 cap1 g1 nn : Nat} {dup : Bool} {a b : List El} {x : El} {f : El → Option Value} (h : QS w base q n cap g mb dup a) (h1 : KMap kV w1 mb f nn) (hf : dup = false → ∀ p, (f p).isSome = true ↔ p = x ∨ p ∈ a)
    (hq : QM w2 base q n1 cap1 g1 (.map (some mb)) (.bool false) (.bool dup) b) (hp : b.Perm (a ++ [x])) (hh : Heap (keyAt b) n1) (hg : g1 = g ∨ w1.heap.size ≤ g1) (hc : Ch (fun k => k = q ∨ k = g) w1 w2) (hx : dup = false → x ∉ a) : QS w2 base q n1 cap1 g1 mb dup b := by
  have hl := h1.lt
  refine ⟨hq, hh, ⟨f, nn, h1.keep (hc.block _ h1.lt (fun e => e.elim h.nq h.ng)), fun hd p => ?_⟩, fun hd => ?_, h.nq, ?_⟩
  · rw [hf hd p, hp.mem_iff]
    simp [or_comm]
  · refine (hp.nodup_iff).2 (List.nodup_append.2 ⟨h.nd hd, by simp, fun u hu v hv => ?_⟩)
    simp only [List.mem_singleton] at hv
    subst hv
    exact fun e => hx hd (e ▸ hu)
  · have := h.ng
    rcases hg with e | e <;> omega

set_option maxHeartbeats 8000000 in
set_option maxRecDepth 100000 in
theorem put_dup (base q n cap g mb k c : Nat) (A : Option Addr) (a its : List El) (w : World) (h : QS w base q n cap g mb true a) (hb : base ≤ w.heap.size) (hR : Rd w A (ev its)) (hk : its.length = k) (hk0 : 0 < k) (hl : a.length + k ≤ 2000)
    (h3 : ∀ b o, A = some ⟨b, o, none⟩ → ¬ SQ q mb g b) :
    Calls Tryd.prog 18 #[.pointer (some ⟨q, 0, none⟩), .slice A k c] w fun r w' => r = .returned .nilIface ∧ PutR w base q g mb true a its w' ∧ Ch (SQ q mb g) w w' := by
  have hne : ((k : Int) == 0) = false := by simp; omega
  have hne2 : ¬ ((k : Int) = 0) := by omega
  have hne3 : ¬ (k = 0) := by omega
  have q2 := h.qm.blk.cell 2
  simp only [List.getElem?_toArray, List.getElem?_cons_zero, List.getElem?_cons_succ] at q2
  have hgl : g < w.heap.size := (own_lt h.qm.row g rfl).2
  have hql := h.qm.blk.lt
  have hml : mb < w.heap.size := by
    obtain ⟨f, nn, hm, _⟩ := h.map
    exact hm.lt
  have hal := h.qm.len
  have HH := Lib.hid h
  have HR := Lib.hid hR
  have HK := Lib.hid hk
  have H3 := Lib.hid h3
  have HAl := Lib.hid hal
  clear h hR hk h3 hal
  go_enter Tryd.func18, Tryd.ntmps18
  go_wp2_with fail
  go_loopw [19] (fun vi wr => ∃ i : Nat, i ≤ k ∧ vi = .int .i64 i ∧ PutR w base q g mb true a (its.take i) wr ∧ Ch (SQ q mb g) w wr) (fun vi _ => k - (intOf vi).toNat)
  case atStart => exact ⟨0, by omega, rfl, ⟨g, cap, n, a, HH.out, by simp, Or.inl rfl⟩, Ch.refl _ _⟩
  case round =>
    obtain ⟨i, hi, rfl, ⟨g1, cap1, n1, a1, hQ, hP, hg⟩, hC⟩ := hrel
    have hn1 := hQ.qm.len
    have hpl := hP.length_eq
    have q3 := hQ.qm.blk.cell 3
    simp only [List.getElem?_toArray, List.getElem?_cons_zero, List.getElem?_cons_succ] at q3
    have HQ := Lib.hid hQ
    have HP := Lib.hid hP
    have HG := Lib.hid hg
    have HC := Lib.hid hC
    have hsz := hC.size
    have HN1 := Lib.hid hn1
    have HPl := Lib.hid hpl
    clear hQ hP hg hC hn1 hpl
    by_cases hlt : i < k
    · have hlti : (i : Int) < (k : Nat) := by omega
      have hi0 : (0 : Int) ≤ (i : Nat) := by omega
      obtain ⟨x, hx⟩ : ∃ x, its[i]? = some x := ⟨its[i]'(by have := HK.out; omega), by simp [HK.out, hlt]⟩
      obtain ⟨qa, o, e, c0⟩ := (HR.out.keep HC.out (fun b o h e => H3.out b o h e)).at (ev_get hx)
      subst e
      have HT : Hid (its.take (i + 1) = its.take i ++ [x]) := Lib.hid (by rw [List.take_add_one, hx]; rfl)
      have hnn : n1 < 100000 := by
        have h1 := HN1.out
        have h2 := HPl.out
        have h3 := HAl.out
        simp at h2
        omega
      clear hx
      go_wp2_with fail
      refine (push_any base q n1 cap1 g1 _ _ _ a1 x _ HQ.out.qm HQ.out.hp hnn (by omega)).mono ?_
      rintro r w4 ⟨rfl, ⟨cap2, g2, a2, hQ4, hP4, hH4, hg4⟩, hC4⟩
      have HQ4 := Lib.hid hQ4
      have HP4 := Lib.hid hP4
      have HH4 := Lib.hid hH4
      have HG4 := Lib.hid hg4
      have HC4 := Lib.hid hC4
      clear hQ4 hP4 hH4 hg4 hC4
      go_wp2_with fail
      go_roundw
      case rel =>
        obtain ⟨f, nn, hm, _⟩ := HQ.out.map
        refine ⟨i + 1, by omega, by go_num, ⟨g2, cap2, n1 + 1, a2, HQ.out.pushed hm (fun h => by cases h) HQ4.out HP4.out HH4.out HG4.out HC4.out (fun h => by cases h), ?_, ?_⟩, ?_⟩
        · rw [HT.out, ← List.append_assoc]
          exact HP4.out.trans (List.Perm.append_right _ HP.out)
        · have h1 := HG4.out
          have h2 := HG.out
          omega
        · refine HC.out.trans' HC4.out (fun j hj e => ?_)
          have h2 := HG.out
          rcases e with e | e
          · exact Or.inl e
          · rcases h2 with h2 | h2
            · exact Or.inr (Or.inr (e.trans h2))
            · omega
      case measure => simp [intOf]; omega
    · have hin : ¬ (i : Int) < (k : Nat) := by omega
      have hie : i = k := by omega
      go_wp2_with fail
      go_ret
      refine ⟨rfl, ⟨g1, cap1, n1, a1, HQ.out, ?_, HG.out⟩, HC.out⟩
      have := HP.out
      rwa [hie, ← HK.out, List.take_length] at this

set_option maxHeartbeats 8000000 in
set_option maxRecDepth 100000 in
theorem put_once (base q n cap g mb k c : Nat) (A : Option Addr) (a its : List El) (w : World) (h : QS w base q n cap g mb false a) (hb : base ≤ w.heap.size) (hR : Rd w A (ev its)) (hk : its.length = k) (hk0 : 0 < k) (hl : a.length + k ≤ 2000)
    (hnd : (a ++ its).Nodup) (h3 : ∀ b o, A = some ⟨b, o, none⟩ → ¬ SQ q mb g b) :
    Calls Tryd.prog 18 #[.pointer (some ⟨q, 0, none⟩), .slice A k c] w fun r w' => r = .returned .nilIface ∧ PutR w base q g mb false a its w' ∧ Ch (SQ q mb g) w w' := by
  have hne : ((k : Int) == 0) = false := by simp; omega
  have hne2 : ¬ ((k : Int) = 0) := by omega
  have hne3 : ¬ (k = 0) := by omega
  have q2 := h.qm.blk.cell 2
  simp only [List.getElem?_toArray, List.getElem?_cons_zero, List.getElem?_cons_succ] at q2
  have hgl : g < w.heap.size := (own_lt h.qm.row g rfl).2
  have hql := h.qm.blk.lt
  have hml : mb < w.heap.size := by
    obtain ⟨f, nn, hm, _⟩ := h.map
    exact hm.lt
  have hal := h.qm.len
  have HH := Lib.hid h
  have HR := Lib.hid hR
  have HK := Lib.hid hk
  have H3 := Lib.hid h3
  have HAl := Lib.hid hal
  have HNd := Lib.hid hnd
  clear h hR hk h3 hal hnd
  go_enter Tryd.func18, Tryd.ntmps18
  go_wp2_with fail
  go_loopw [19] (fun vi wr => ∃ i : Nat, i ≤ k ∧ vi = .int .i64 i ∧ PutR w base q g mb false a (its.take i) wr ∧ Ch (SQ q mb g) w wr) (fun vi _ => k - (intOf vi).toNat)
  case atStart => exact ⟨0, by omega, rfl, ⟨g, cap, n, a, HH.out, by simp, Or.inl rfl⟩, Ch.refl _ _⟩
  case round =>
    obtain ⟨i, hi, rfl, ⟨g1, cap1, n1, a1, hQ, hP, hg⟩, hC⟩ := hrel
    have hn1 := hQ.qm.len
    have hpl := hP.length_eq
    have q3 := hQ.qm.blk.cell 3
    have q1 := hQ.qm.blk.cell 1
    simp only [List.getElem?_toArray, List.getElem?_cons_zero, List.getElem?_cons_succ] at q3 q1
    have HQ := Lib.hid hQ
    have HP := Lib.hid hP
    have HG := Lib.hid hg
    have HC := Lib.hid hC
    have hsz := hC.size
    have HN1 := Lib.hid hn1
    have HPl := Lib.hid hpl
    clear hQ hP hg hC hn1 hpl
    by_cases hlt : i < k
    · have hlti : (i : Int) < (k : Nat) := by omega
      have hi0 : (0 : Int) ≤ (i : Nat) := by omega
      obtain ⟨x, hx⟩ : ∃ x, its[i]? = some x := ⟨its[i]'(by have := HK.out; omega), by simp [HK.out, hlt]⟩
      obtain ⟨qa, o, e, c0⟩ := (HR.out.keep HC.out (fun b o h e => H3.out b o h e)).at (ev_get hx)
      subst e
      have HT : Hid (its.take (i + 1) = its.take i ++ [x]) := Lib.hid (by rw [List.take_add_one, hx]; rfl)
      have hnn : n1 < 100000 := by
        have h1 := HN1.out
        have h2 := HPl.out
        have h3 := HAl.out
        simp at h2
        omega
      have hxa : x ∉ a1 := by
        rw [HP.out.mem_iff]
        have h1 := HNd.out
        have e : its = its.take i ++ x :: its.drop (i + 1) := by
          have := List.getElem?_eq_some_iff.1 hx
          obtain ⟨hil, hxe⟩ := this
          rw [← hxe, List.getElem_cons_drop, List.take_append_drop]
        rw [e, ← List.append_assoc] at h1
        have := (List.nodup_append.1 h1).2.2
        intro hm
        exact this x hm x (by simp) rfl
      obtain ⟨f, nn, hm, hf⟩ := HQ.out.map
      have hfx : f x = none := by
        have := hf rfl x
        cases hv : f x with
        | none => rfl
        | some v => exact absurd (this.1 (by simp [hv])) hxa
      have HM := Lib.hid hm
      have HF := Lib.hid hf
      have HXa := Lib.hid hxa
      have HFx := Lib.hid hfx
      have hqr : q < wr.heap.size := HQ.out.qm.blk.lt
      have hmr : mb < wr.heap.size := hm.lt
      have HM2 : Hid (KMap kV (wr.alloc (.cells #[] 68)) mb f nn) := Lib.hid (hm.keep (((Ch.refl S0 wr).alloc _).block _ hmr (fun h => h)))
      have HQ2 := Lib.hid (HQ.out.qm.keep ((Ch.refl S0 wr).alloc (.cells #[] 68)) (fun h => h) (fun h => h))
      clear hx hm hf hxa hfx
      go_wp2_with (first | (at_lookup; go_loud (refine wpList_klook_ok _ rfl (.tmp 36) (.tmp 37) 50 rfl 68 kP Tryd.underlying50 (zeroE _) mb nn f rfl HM.out x rfl ?_; rw [HFx.out]; simp only [Option.getD_none, Option.isSome_none])) | (at_mapUpdate; go_loud (refine wpList_kstore _ rfl (.tmp 46) (.tmp 47) (.tmp 48) 50 rfl 68 kP Tryd.underlying50 mb nn f rfl HM2.out x rfl (.agg #[]) rfl ?_; intro w3 hI3 hgr3 hsz3; have hC3 : Ch (S1 mb) (wr.alloc (.cells #[] 68)) w3 := Ch.ofGrown hgr3 (fun k hk => by cases hk; rfl); have HI3 := Lib.hid hI3; have HQ3 := Lib.hid (HQ2.out.keep hC3 (fun e => HQ.out.nq (Eq.symm e)) (fun e => HQ.out.ng (Eq.symm e))); have HC3 := Lib.hid hC3; have hw3 := hsz3.trans (World.size_alloc _ _); clear hI3 hgr3 hC3 hsz3)))
      refine (push_any base q n1 cap1 g1 _ _ _ a1 x _ HQ3.out HQ.out.hp hnn (by omega)).mono ?_
      rintro r w4 ⟨rfl, ⟨cap2, g2, a2, hQ4, hP4, hH4, hg4⟩, hC4⟩
      have HQ4 := Lib.hid hQ4
      have HP4 := Lib.hid hP4
      have HH4 := Lib.hid hH4
      have HG4 := Lib.hid hg4
      have HC4 := Lib.hid hC4
      clear hQ4 hP4 hH4 hg4 hC4
      go_wp2_with fail
      go_roundw
      case rel =>
        refine ⟨i + 1, by omega, by go_num, ⟨g2, cap2, n1 + 1, a2, HQ.out.pushed HI3.out (fun hd p => ?_) HQ4.out HP4.out HH4.out HG4.out HC4.out (fun _ => HXa.out), ?_, ?_⟩, ?_⟩
        · by_cases e : p = x
          · simp [e]
          · have := HF.out trivial p
            simp only [e, if_false, false_or]
            exact this
        · rw [HT.out, ← List.append_assoc]
          exact HP4.out.trans (List.Perm.append_right _ HP.out)
        · have h1 := HG4.out
          have h2 := HG.out
          omega
        · have h0 : Ch S0 wr (wr.alloc (.cells #[] 68)) := (Ch.refl S0 wr).alloc _
          have h1 := HC.out.trans (h0.mono (fun _ _ h => h.elim))
          have h2 := h1.trans (HC3.out.mono (fun k _ e => Or.inr (Or.inl e)))
          refine h2.trans' HC4.out (fun j hj e => ?_)
          have h2 := HG.out
          rcases e with e | e
          · exact Or.inl e
          · rcases h2 with h2 | h2
            · exact Or.inr (Or.inr (e.trans h2))
            · omega
      case measure => simp [intOf]; omega
    · have hin : ¬ (i : Int) < (k : Nat) := by omega
      have hie : i = k := by omega
      go_wp2_with fail
      go_ret
      refine ⟨rfl, ⟨g1, cap1, n1, a1, HQ.out, ?_, HG.out⟩, HC.out⟩
      have := HP.out
      rwa [hie, ← HK.out, List.take_length] at this

theorem peek_any (base q n cap g mb : Nat) (dup : Bool) (a : List El) (w : World) (h : QS w base q n cap g mb dup a) (h0 : 0 < n) :
    Calls Tryd.prog 22 #[.pointer (some ⟨q, 0, none⟩)] w fun r w' => (∃ x, r = .returned (kV x) ∧ (srt (keys a)).head? = some x.1) ∧ w' = w := by
  have hl := h.qm.len
  have q0 := h.qm.blk.cell 0
  simp only [List.getElem?_toArray, List.getElem?_cons_zero, List.getElem?_cons_succ] at q0
  obtain ⟨x, hx⟩ : ∃ x, a[0]? = some x := ⟨a[0]'(by omega), by simp [show 0 < a.length by omega]⟩
  have c0 := (h.qm.row.cellAt 0 (by omega)).trans (ev_get hx)
  have hm : ∀ y ∈ a, x.1 ≤ y.1 := perm_min h.hp hl (by simp [List.getD, hx])
  have hhead : (srt (keys a)).head? = some x.1 := by
    have hxa : x ∈ a := List.mem_of_getElem? hx
    cases e : srt (keys a) with
    | nil =>
      have := congrArg List.length e
      rw [srt_len, keys_len, List.length_nil] at this
      omega
    | cons k S =>
      have hs := srt_sorted (keys a)
      rw [e] at hs
      have hk : k ∈ keys a := (srt_perm (keys a)).subset (by rw [e]; simp)
      simp only [keys, List.mem_map] at hk
      obtain ⟨y, hy, rfl⟩ := hk
      have h1 := hm y hy
      have h2 : x.1 ∈ srt (keys a) := (srt_perm (keys a)).symm.subset (List.mem_map.2 ⟨x, hxa, rfl⟩)
      rw [e] at h2
      rcases List.mem_cons.1 h2 with h2 | h2
      · simp [h2]
      · have := (List.pairwise_cons.1 hs).1 _ h2
        simp
        omega
  have HH := Lib.hid hhead
  have hn0 : (0 : Int) < (n : Nat) := by omega
  clear h hl hx hm hhead
  go_enter Tryd.func22, Tryd.ntmps22
  go_wp2_with fail
  go_ret
  exact ⟨⟨x, rfl, HH.out⟩, rfl⟩
theorem len_any (base q n cap g mb : Nat) (dup : Bool) (a : List El) (w : World) (h : QS w base q n cap g mb dup a) :
    Calls Tryd.prog 23 #[.pointer (some ⟨q, 0, none⟩)] w fun r w' => r = .returned (.int .i64 (a.length : Nat)) ∧ w' = w := by
  have hl := h.qm.len
  have q0 := h.qm.blk.cell 0
  simp only [List.getElem?_toArray, List.getElem?_cons_zero, List.getElem?_cons_succ] at q0
  have HL := Lib.hid hl
  clear h hl
  go_enter Tryd.func23, Tryd.ntmps23
  go_wp2_with fail
  go_ret
  exact ⟨by rw [HL.out]; rfl, rfl⟩
theorem empty_any (base q n cap g mb : Nat) (dup : Bool) (a : List El) (w : World) (h : QS w base q n cap g mb dup a) :
    Calls Tryd.prog 19 #[.pointer (some ⟨q, 0, none⟩)] w fun r w' => r = .returned (.bool (decide (a.length = 0))) ∧ w' = w := by
  have hl := h.qm.len
  have q0 := h.qm.blk.cell 0
  simp only [List.getElem?_toArray, List.getElem?_cons_zero, List.getElem?_cons_succ] at q0
  have HL := Lib.hid hl
  clear h hl
  cases n with
  | zero =>
    go_enter Tryd.func19, Tryd.ntmps19
    go_wp2_with fail
    go_ret
    exact ⟨by rw [HL.out]; rfl, rfl⟩
  | succ n =>
    have hne : ((n : Int) + 1 == 0) = false := by simp; omega
    have hne2 : ¬ ((n : Int) + 1 = 0) := by omega
    go_enter Tryd.func19, Tryd.ntmps19
    go_wp2_with fail
    go_ret
    exact ⟨by rw [HL.out]; rfl, rfl⟩
theorem disposed_any (base q n cap g mb : Nat) (dup : Bool) (a : List El) (w : World) (h : QS w base q n cap g mb dup a) :
    Calls Tryd.prog 20 #[.pointer (some ⟨q, 0, none⟩)] w fun r w' => r = .returned (.bool false) ∧ w' = w := by
  have q0 := h.qm.blk.cell 2
  simp only [List.getElem?_toArray, List.getElem?_cons_zero, List.getElem?_cons_succ] at q0
  clear h
  go_enter Tryd.func20, Tryd.ntmps20
  go_wp2_with fail
  go_ret
  exact ⟨rfl, rfl⟩
theorem pqError_nil (w : World) : Calls Tryd.prog 17 #[.nilIface] w fun r w' => r = .returned (.int .i64 0) ∧ w' = w := by
  go_enter Tryd.func17, Tryd.ntmps17
  go_wp2_with fail
  go_ret
  exact ⟨rfl, rfl⟩

theorem new_qs {w W : World} {hint s m : Nat} {dup : Bool} (hC : Ch S0 w W) (hs : W.heap[s]? = some (.cells (Array.replicate hint .nilIface) 63 (0, 0))) (hm : KMap kV W m (fun _ => none) 0) (hh : hint ≤ 1000) (h1 : w.heap.size ≤ s) (h2 : w.heap.size ≤ m) (hne : m ≠ s) :
    QS (W.alloc (.cells #[.slice (some ⟨s, 0, none⟩) 0 hint, .map (some m), .bool false, .bool dup] 52)) w.heap.size W.heap.size 0 hint s m dup [] ∧ Ch S0 w (W.alloc (.cells #[.slice (some ⟨s, 0, none⟩) 0 hint, .map (some m), .bool false, .bool dup] 52)) := by
  have hsl : s < W.heap.size := (Array.getElem?_eq_some_iff.1 hs).1
  have hml := hm.lt
  have hA : Ch S0 W (W.alloc (.cells #[.slice (some ⟨s, 0, none⟩) 0 hint, .map (some m), .bool false, .bool dup] 52)) := (Ch.refl S0 W).alloc _
  refine ⟨⟨⟨Blk.new W _ _, ?_, by omega⟩, fun i h1 h2 => by omega, ⟨_, 0, hm.keep (hA.block _ hml (fun h => h)), fun _ p => by simp⟩, fun _ => List.nodup_nil, by omega, hne⟩, hC.trans hA⟩
  have h0 : W.ownsRow w.heap.size 63 1 (.slice (some ⟨s, 0, none⟩) 0 hint) 0 [] := ⟨rfl, Or.inr ⟨s, hint, Array.replicate hint .nilIface, rfl, h1, hs, Nat.zero_le _, by unfold maxLen; omega, by simp, by simp⟩⟩
  exact own_keep0 h0 hA

set_option maxRecDepth 100000 in
theorem new_any (hint : Nat) (dup : Bool) (w : World) (hh : hint ≤ 1000) :
    Calls Tryd.prog 14 #[.int .i64 hint, .bool dup] w fun r w' => (∃ q n cap g mb, r = .returned (.pointer (some ⟨q, 0, none⟩)) ∧ QS w' w.heap.size q n cap g mb dup [] ∧ w.heap.size ≤ q ∧ w.heap.size ≤ g ∧ w.heap.size ≤ mb) ∧ Ch S0 w w' := by
  have hmm : ∀ w, (Instr.makeMap 50 (some (.int .i64 hint))).run Tryd.prog w = .ok (.map (some w.heap.size)) (w.alloc (.map #[] 0)) := fun w => by kernel_rfl
  have hms : ∀ w, (Instr.makeSlice 49 (.int .i64 0) (.int .i64 hint)).run Tryd.prog w = .ok (.slice (some ⟨w.heap.size, 0, none⟩) 0 hint) (w.alloc (.cells (Array.replicate hint .nilIface) 63)) := fun w => make_one Tryd.underlying49 infoItem rfl .i64 .i64 0 hint (Nat.zero_le _) (by omega) (by omega) w
  go_enter Tryd.func14, Tryd.ntmps14
  go_wp2_with fail
  go_region
  all_goals go_wp2_with fail
  all_goals go_ret
  · obtain ⟨hq, hc⟩ := new_qs (w := w) (W := (w.alloc (.cells (Array.replicate hint .nilIface) 63)).alloc (.map #[] 0)) (hint := hint) (s := w.heap.size) (m := w.heap.size + 1) (dup := dup) (((Ch.refl S0 w).alloc _).alloc _) (by
        rw [((Ch.refl S0 (w.alloc (.cells (Array.replicate hint .nilIface) 63))).alloc (.map #[] 0)).block w.heap.size (by rw [World.size_alloc]; omega) (fun h => h)]
        exact (MapKept.heap_alloc w _).1) (by
        have := KMap.made (α := El) kV (w.alloc (.cells (Array.replicate hint .nilIface) 63))
        rwa [World.size_alloc] at this) hh (Nat.le_refl _) (by omega) (by omega)
    rw [World.size_alloc, World.size_alloc] at hq
    exact ⟨⟨_, 0, hint, _, _, rfl, hq.keep ((Ch.refl S0 _).drew) (fun h => h) (fun h => h) (fun h => h), by omega, by omega, by omega⟩, hc.drew⟩
  · obtain ⟨hq, hc⟩ := new_qs (w := w) (W := (w.alloc (.map #[] 0)).alloc (.cells (Array.replicate hint .nilIface) 63)) (hint := hint) (s := w.heap.size + 1) (m := w.heap.size) (dup := dup) (((Ch.refl S0 w).alloc _).alloc _) (by
        have := (MapKept.heap_alloc (w.alloc (.map #[] 0)) (.cells (Array.replicate hint .nilIface) 63)).1
        rwa [World.size_alloc] at this) (by
        have h1 := KMap.made (α := El) kV w
        exact h1.keep (((Ch.refl S0 _).alloc _).block _ h1.lt (fun h => h))) hh (by omega) (Nat.le_refl _) (by omega)
    rw [World.size_alloc, World.size_alloc] at hq
    exact ⟨⟨_, 0, hint, _, _, rfl, hq.keep ((Ch.refl S0 _).drew) (fun h => h) (fun h => h) (fun h => h), by omega, by omega, by omega⟩, hc.drew⟩
end Go.Proofs.YtpkeiankocimaaaDoor
