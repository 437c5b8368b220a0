/- WALKS: two sorted runs of a row merged in place. (Printed by mkMD.py.) -/
import Derived.Test.YtbfcnimebdoagaaMC
namespace Go.Proofs.Ytbfcnimebdoagaa
open Go.RowKit
set_option linter.unusedVariables false
set_option linter.unusedSimpArgs false

def MergeR (base g n cap s1 last : Nat) (f : Nat → El) (w : World) (r : Ending) (w' : World) : Prop := r = .returned (.tuple #[]) ∧ (∃ f', RW w' base g n cap f' ∧ Merged n f f' s1 last) ∧ Ch (S1 g) w w'

set_option maxRecDepth 100000 in
theorem symMerge_base (base g n cap s1 s2 last : Nat) (f : Nat → El) (w : World) (h : RW w base g n cap f) (h1 : s1 ≤ s2) (h2 : s2 ≤ last) (h3 : last ≤ n) (hn : n ≤ 1000000) (ha : Asc f s1 s2) (hb : Asc f s2 last) (hc : s1 = s2 ∨ s2 = last) :
    Calls Try.prog 47 #[.slice (some ⟨g, 0, none⟩) n cap, .int .i64 s1, .int .i64 s2, .int .i64 last] w fun r w' => MergeR base g n cap s1 last f w r w' := by
  have HM := Lib.hid (merged_same (n := n) hc h1 h2 ha hb)
  have HH := Lib.hid h
  clear h ha hb
  by_cases h12 : s1 < s2
  · have h12i : (s1 : Int) < (s2 : Nat) := by omega
    have h2l : ¬ (s2 : Int) < (last : Nat) := by omega
    clear hc
    go_enter Try.func47, Try.ntmps47
    go_wp2_with fail
    refine bodyPost_end (results_none rfl _ _ _) rfl ?_
    exact ⟨rfl, ⟨f, HH.out, HM.out⟩, Ch.refl _ _⟩
  · have h12i : ¬ (s1 : Int) < (s2 : Nat) := by omega
    clear hc
    go_enter Try.func47, Try.ntmps47
    go_wp2_with fail
    refine bodyPost_end (results_none rfl _ _ _) rfl ?_
    exact ⟨rfl, ⟨f, HH.out, HM.out⟩, Ch.refl _ _⟩

set_option maxRecDepth 100000 in
set_option maxHeartbeats 8000000 in
theorem symMerge_any (d : Nat) : ∀ (base g n cap s1 s2 last : Nat) (f : Nat → El) (w : World), last - s1 ≤ d → RW w base g n cap f → s1 ≤ s2 → s2 ≤ last → last ≤ n → n ≤ 1000000 → Asc f s1 s2 → Asc f s2 last →
    Calls Try.prog 47 #[.slice (some ⟨g, 0, none⟩) n cap, .int .i64 s1, .int .i64 s2, .int .i64 last] w fun r w' => MergeR base g n cap s1 last f w r w' := by
  induction d with
  | zero => exact fun base g n cap s1 s2 last f w hd h h1 h2 h3 hn ha hb => symMerge_base base g n cap s1 s2 last f w h h1 h2 h3 hn ha hb (by omega)
  | succ d ih =>
    intro base g n cap s1 s2 last f w hd h h1 h2 h3 hn ha hb
    by_cases hc : s1 = s2 ∨ s2 = last
    · exact symMerge_base base g n cap s1 s2 last f w h h1 h2 h3 hn ha hb hc
    have g1 : s1 < s2 := by omega
    have g2 : s2 < last := by omega
    have g1i : (s1 : Int) < (s2 : Nat) := by omega
    have g2i : (s2 : Int) < (last : Nat) := by omega
    obtain ⟨mid, hmid⟩ : ∃ mid, mid = (s1 + last) / 2 := ⟨_, rfl⟩
    have hmi : ((s1 : Int) + (last : Int)) / 2 = (mid : Nat) := by omega
    have m1 : s1 < mid := by omega
    have m2 : mid < last := by omega
    obtain ⟨N, hN⟩ : ∃ N, N = mid + s2 := ⟨_, rfl⟩
    have hNi : (mid : Int) + (s2 : Int) = (N : Nat) := by omega
    obtain ⟨tot, htot⟩ : ∃ tot, tot = mid + s2 - 1 := ⟨_, rfl⟩
    have hti : (N : Int) - 1 = (tot : Nat) := by omega
    have HIh := Lib.hid ih
    have HA := Lib.hid ha
    have HB := Lib.hid hb
    have HH := Lib.hid h
    have HMid := Lib.hid hmid
    have HN := Lib.hid hN
    have HTot := Lib.hid htot
    clear ih ha hb h hmid hN htot hc h1 h2
    by_cases hsm : mid < s2
    · have hsmi : (mid : Int) < (s2 : Nat) := by omega
      obtain ⟨lo, hlo0⟩ : ∃ lo, lo = mid + s2 - last := ⟨_, rfl⟩
      have hloi : (N : Int) - (last : Int) = (lo : Nat) := by have := HN.out; omega
      have hlo : sLo s1 s2 last mid = lo := by unfold sLo; rw [if_pos hsm, hlo0]
      have hhi : sHi s1 s2 last mid = mid := by unfold sHi; rw [if_pos hsm]
      have HS := Lib.hid (symBS_any base g n cap lo mid tot f w HH.out (by omega) (by omega) (by have := HTot.out; omega) (by have := HTot.out; omega) hn (fun x y x1 x2 x3 => HA.out x y (by have := HMid.out; omega) x2 (by omega)) (fun x y x1 x2 x3 => HB.out _ _ (by have := HTot.out; omega) (by omega) (by have := HTot.out; omega)))
      clear hlo0
      go_enter Try.func47, Try.ntmps47
      go_wp2_with fail
      refine HS.out.mono ?_
      rintro r w1 ⟨⟨s, rfl, hfd⟩, hC1⟩
      have HFd := Lib.hid hfd
      have hrun := runs_low (s := s) g1 g2 HMid.out HA.out HB.out (by rw [hlo, hhi]; exact hfd.le)
      obtain ⟨r1, r2, r3, r4, r5, r6, r7, r8, r9, r10⟩ := hrun
      obtain ⟨e, he⟩ : ∃ e, e = mid + s2 - s := ⟨_, rfl⟩
      rw [← he] at r1 r2 r3 r4 r8 r9 r10
      have hei : (N : Int) - (s : Int) = (e : Nat) := by have := HN.out; omega
      have HR1 := Lib.hid (⟨r1, r2, r3, r4⟩ : _ ∧ _ ∧ _ ∧ _)
      have HE := Lib.hid he
      have HC1 := Lib.hid hC1
      have HW1 := Lib.hid (HH.out.keep hC1 (fun h => h))
      have HRot := Lib.hid (symRotate_any base g n cap s s2 e f _ HW1.out r7 r8 (by omega) hn)
      clear hfd hC1 r1 r2 r3 r4 he
      go_wp2_with fail
      refine HRot.out.mono ?_
      rintro r w2 ⟨rfl, hR2, hC2⟩
      have HR2 := Lib.hid hR2
      have HC2 := Lib.hid hC2
      clear hR2 hC2
      have HI1 := Lib.hid (HIh.out base g n cap s1 s mid _ _ (by omega) HR2.out r5 r6 (by omega) hn HR1.out.1 HR1.out.2.1)
      go_wp2_with fail
      refine HI1.out.mono ?_
      rintro r w3 ⟨rfl, ⟨f3, hR3, hM3⟩, hC3⟩
      have HR3 := Lib.hid hR3
      have HM3 := Lib.hid hM3
      have HC3 := Lib.hid hC3
      clear hR3 hM3 hC3
      have ha3 : Asc f3 mid e := fun x y x1 x2 x3 => by rw [HM3.out.out x (Or.inr x1), HM3.out.out y (Or.inr (by omega))]; exact HR1.out.2.2.1 x y x1 x2 x3
      have hb3 : Asc f3 e last := fun x y x1 x2 x3 => by rw [HM3.out.out x (Or.inr (by omega)), HM3.out.out y (Or.inr (by omega))]; exact HR1.out.2.2.2 x y x1 x2 x3
      have HI2 := Lib.hid (HIh.out base g n cap mid e last _ _ (by omega) HR3.out r10 r9 h3 hn ha3 hb3)
      clear ha3 hb3
      go_wp2_with fail
      refine HI2.out.mono ?_
      rintro r w4 ⟨rfl, ⟨f4, hR4, hM4⟩, hC4⟩
      have HR4 := Lib.hid hR4
      have HM4 := Lib.hid hM4
      have HC4 := Lib.hid hC4
      clear hR4 hM4 hC4
      go_wp2_with fail
      refine bodyPost_end (results_none rfl _ _ _) rfl ?_
      refine ⟨rfl, ⟨f4, HR4.out, ?_⟩, (HC1.out.mono (fun _ _ h => h.elim)).trans (HC2.out.trans (HC3.out.trans HC4.out))⟩
      have hfd := HFd.out
      rw [HTot.out] at hfd
      refine merged_step g1 g2 h3 HMid.out HA.out HB.out (by rw [hlo, hhi]; exact hfd) (by rw [← HE.out]; exact HM3.out) HM4.out ?_
      rw [← HE.out]
      exact rotF_swap_perm f r7 r8 (by omega)
    · have hsmi : ¬ (mid : Int) < (s2 : Nat) := by omega
      have hlo : sLo s1 s2 last mid = s1 := by unfold sLo; rw [if_neg hsm]
      have hhi : sHi s1 s2 last mid = s2 := by unfold sHi; rw [if_neg hsm]
      have HS := Lib.hid (symBS_any base g n cap s1 s2 tot f w HH.out (by omega) (by omega) (by have := HTot.out; omega) (by have := HTot.out; omega) hn (fun x y x1 x2 x3 => HA.out x y x1 x2 x3) (fun x y x1 x2 x3 => HB.out _ _ (by have := HTot.out; omega) (by omega) (by have := HTot.out; have := HMid.out; omega)))
      go_enter Try.func47, Try.ntmps47
      go_wp2_with fail
      refine HS.out.mono ?_
      rintro r w1 ⟨⟨s, rfl, hfd⟩, hC1⟩
      have HFd := Lib.hid hfd
      have hrun := runs_low (s := s) g1 g2 HMid.out HA.out HB.out (by rw [hlo, hhi]; exact hfd.le)
      obtain ⟨r1, r2, r3, r4, r5, r6, r7, r8, r9, r10⟩ := hrun
      obtain ⟨e, he⟩ : ∃ e, e = mid + s2 - s := ⟨_, rfl⟩
      rw [← he] at r1 r2 r3 r4 r8 r9 r10
      have hei : (N : Int) - (s : Int) = (e : Nat) := by have := HN.out; omega
      have HR1 := Lib.hid (⟨r1, r2, r3, r4⟩ : _ ∧ _ ∧ _ ∧ _)
      have HE := Lib.hid he
      have HC1 := Lib.hid hC1
      have HW1 := Lib.hid (HH.out.keep hC1 (fun h => h))
      have HRot := Lib.hid (symRotate_any base g n cap s s2 e f _ HW1.out r7 r8 (by omega) hn)
      clear hfd hC1 r1 r2 r3 r4 he
      go_wp2_with fail
      refine HRot.out.mono ?_
      rintro r w2 ⟨rfl, hR2, hC2⟩
      have HR2 := Lib.hid hR2
      have HC2 := Lib.hid hC2
      clear hR2 hC2
      have HI1 := Lib.hid (HIh.out base g n cap s1 s mid _ _ (by omega) HR2.out r5 r6 (by omega) hn HR1.out.1 HR1.out.2.1)
      go_wp2_with fail
      refine HI1.out.mono ?_
      rintro r w3 ⟨rfl, ⟨f3, hR3, hM3⟩, hC3⟩
      have HR3 := Lib.hid hR3
      have HM3 := Lib.hid hM3
      have HC3 := Lib.hid hC3
      clear hR3 hM3 hC3
      have ha3 : Asc f3 mid e := fun x y x1 x2 x3 => by rw [HM3.out.out x (Or.inr x1), HM3.out.out y (Or.inr (by omega))]; exact HR1.out.2.2.1 x y x1 x2 x3
      have hb3 : Asc f3 e last := fun x y x1 x2 x3 => by rw [HM3.out.out x (Or.inr (by omega)), HM3.out.out y (Or.inr (by omega))]; exact HR1.out.2.2.2 x y x1 x2 x3
      have HI2 := Lib.hid (HIh.out base g n cap mid e last _ _ (by omega) HR3.out r10 r9 h3 hn ha3 hb3)
      clear ha3 hb3
      go_wp2_with fail
      refine HI2.out.mono ?_
      rintro r w4 ⟨rfl, ⟨f4, hR4, hM4⟩, hC4⟩
      have HR4 := Lib.hid hR4
      have HM4 := Lib.hid hM4
      have HC4 := Lib.hid hC4
      clear hR4 hM4 hC4
      go_wp2_with fail
      refine bodyPost_end (results_none rfl _ _ _) rfl ?_
      refine ⟨rfl, ⟨f4, HR4.out, ?_⟩, (HC1.out.mono (fun _ _ h => h.elim)).trans (HC2.out.trans (HC3.out.trans HC4.out))⟩
      have hfd := HFd.out
      rw [HTot.out] at hfd
      refine merged_step g1 g2 h3 HMid.out HA.out HB.out (by rw [hlo, hhi]; exact hfd) (by rw [← HE.out]; exact HM3.out) HM4.out ?_
      rw [← HE.out]
      exact rotF_swap_perm f r7 r8 (by omega)
end Go.Proofs.Ytbfcnimebdoagaa
