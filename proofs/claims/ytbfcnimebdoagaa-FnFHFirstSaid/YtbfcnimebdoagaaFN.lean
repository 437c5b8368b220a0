/- WALKS: a new heap; two heaps become one. -/
import Derived.Test.YtbfcnimebdoagaaFB
import Derived.Deep.Cut
import Derived.Deep.CutBlock
namespace Go.Proofs.Ytbfcnimebdoagaa
open Go.RowKit
set_option linter.unusedVariables false
set_option linter.unusedSimpArgs false

theorem fresh_any (w : World) : Calls Try.prog 23 #[] w fun r w' => r = .returned (.agg #[.pointer none, .int .u64 0]) ∧ Ch S0 w w' := by
  go_enter Try.func23, Try.ntmps23
  go_wp2_with fail
  refine bodyPost_ret (v := .agg #[.pointer none, .int .u64 0]) (by simp [results, Try.results23, go_sem]) rfl ⟨rfl, ?_⟩
  exact (Ch.refl _ _).alloc _
theorem uni_mem {w : World} {N M : List Nat} {s s2 : FS} (h1 : Mem w N s) (h2 : Mem w M s2) (hd : ∀ x ∈ N, x ∉ M) : Mem w (N ++ M) (uni N s s2) := by
  intro a ha
  by_cases e : a ∈ N
  · have := h1 a e
    rw [show cells (uni N s s2) a = cells s a by simp [cells, uni, e]]
    exact this
  · have := h2 a ((List.mem_append.1 ha).resolve_left e)
    rw [show cells (uni N s s2) a = cells s2 a by simp [cells, uni, e]]
    exact this
theorem uni_sm {N M : List Nat} {s s2 : FS} (h1 : Sm N s) (h2 : Sm M s2) : Sm (N ++ M) (uni N s s2) := by
  intro a ha
  by_cases e : a ∈ N
  · have := h1 a e
    simpa [uni, e] using this
  · have := h2 a ((List.mem_append.1 ha).resolve_left e)
    simpa [uni, e] using this
def MM (w : World) (hb hb2 rb n1 n2 : Nat) (N M : List Nat) (sm : FS) (mn mn2 : Option Nat) (wx : World) : Prop :=
  Mem wx (N ++ M) sm ∧ Blk wx hb #[op mn, .int .u64 n1] ∧ Blk wx hb2 #[op mn2, .int .u64 n2] ∧ Blk wx rb #[.pointer none, .int .u64 0] ∧ Ch (fun k => SH hb N k ∨ SH hb2 M k) w wx
set_option maxHeartbeats 4000000 in
set_option maxRecDepth 100000 in
theorem hmerge_any (hb hb2 : Nat) (N M : List Nat) (s s2 : FS) (G G2 : Option Nat → List Nat) (h h2 : Nat → Nat) (mn mn2 : Option Nat) (w : World) (f : FHp w hb N s G h mn) (f2 : FHp w hb2 M s2 G2 h2 mn2) (hd : ∀ x ∈ N, x ∉ M) (h1 : hb ∉ M) (h3 : hb2 ∉ N) (hne : hb ≠ hb2) (hl : N.length + M.length < 100000) :
    Calls Try.prog 42 #[.pointer (some ⟨hb, 0, none⟩), .pointer (some ⟨hb2, 0, none⟩)] w fun r w' => r = .returned (.tuple #[.agg #[op (mres (uni N s s2) mn mn2), .int .u64 ((N.length + M.length : Nat) : Int)], .nilIface]) ∧
      Mem w' (N ++ M) (mst (uni N s s2) mn mn2) ∧ Blk w' hb #[.pointer none, .int .u64 0] ∧ Blk w' hb2 #[.pointer none, .int .u64 0] ∧ Ch (fun k => SH hb N k ∨ SH hb2 M k) w w' := by
  have hM := uni_mem f.mem f2.mem hd
  have hS := uni_sm f.sm f2.sm
  have hd2 : ∀ x ∈ M, x ∉ N := fun x hx hn => hd x hn hx
  have hm1 : ∀ a, mn = some a → a ∈ N ++ M ∧ (uni N s s2).nx a ∈ N ++ M := fun a e => by
    have := f.hp.wf.rings.mem (f.hp.least a e).1
    exact ⟨List.mem_append_left _ this, by simp only [uni, this, if_true]; exact List.mem_append_left _ (f.hp.wf.rings.nextN this)⟩
  have hm2 : ∀ a, mn2 = some a → a ∈ N ++ M ∧ (uni N s s2).nx a ∈ N ++ M := fun a e => by
    have := f2.hp.wf.rings.mem (f2.hp.least a e).1
    exact ⟨List.mem_append_right _ this, by simp only [uni, hd2 a this, if_false]; exact List.mem_append_right _ (f2.hp.wf.rings.nextN this)⟩
  have hm3 : ∀ a b, mn = some a → mn2 = some b → a ≠ b := fun a b e1 e2 e3 => hd a (f.hp.wf.rings.mem (f.hp.least a e1).1) (e3 ▸ f2.hp.wf.rings.mem (f2.hp.least b e2).1)
  obtain ⟨W1, hW1⟩ : ∃ W, W = w.alloc (.cells #[.pointer none, .int .u64 0] 55) := ⟨_, rfl⟩
  have C1 : Ch S0 w W1 := by rw [hW1]; exact (Ch.refl _ _).alloc _
  have B0 : Blk W1 w.heap.size #[.pointer none, .int .u64 0] := by rw [hW1]; exact Blk.new _ _ _
  have F1 := f.keep C1 (fun h => h) (fun _ _ h => h)
  have F2 := f2.keep C1 (fun h => h) (fun _ _ h => h)
  have a0 := F1.blk.cell 0
  have a1 := F1.blk.cell 1
  have b0 := F2.blk.cell 0
  have b1 := F2.blk.cell 1
  simp only [List.getElem?_toArray, List.getElem?_cons_zero, List.getElem?_cons_succ] at a0 a1 b0 b1
  have HF := Lib.hid f
  have HF2 := Lib.hid f2
  have HC1 := Lib.hid C1
  have HB0 := Lib.hid B0
  have HM := Lib.hid hM
  have HS := Lib.hid hS
  have Hm1 := Lib.hid hm1
  have Hm2 := Lib.hid hm2
  have Hm3 := Lib.hid hm3
  have HHL := Lib.hid hl
  have HW1 := Lib.hid hW1
  have HF1 := Lib.hid F1
  have HF22 := Lib.hid F2
  have HN1 := Lib.hid h1
  have HN3 := Lib.hid h3
  have HNE := Lib.hid hne
  obtain ⟨n1, hn1⟩ : ∃ n, n = N.length := ⟨_, rfl⟩
  obtain ⟨n2, hn2⟩ : ∃ n, n = M.length := ⟨_, rfl⟩
  rw [← hn1] at a1
  rw [← hn2] at b1
  have hl2 : (n1 : Int) + n2 < 100000 := by omega
  have hl0 : (0 : Int) ≤ n1 := by omega
  have hl1 : (0 : Int) ≤ n2 := by omega
  have Hn1 := Lib.hid hn1
  have Hn2 := Lib.hid hn2
  clear hM hS hm1 hm2 hm3 C1 B0 F1 F2 f f2 hd hd2 hl hW1 hn1 hn2 h1 h3 hne
  go_enter Try.func42, Try.ntmps42
  go_wp2_with fail
  rw [← HW1.out]
  go_quiet (fail)
  have MM2 : MM w hb hb2 w.heap.size n1 n2 N M (uni N s s2) mn mn2 (W1.drewN nq) :=
    ⟨(HM.out.keep HC1.out (fun _ _ h => h)).drewN nq, by rw [Hn1.out]; exact HF1.out.blk, by rw [Hn2.out]; exact HF22.out.blk, HB0.out, (HC1.out.mono (fun _ _ h => h.elim)).drewN nq⟩
  obtain ⟨W2, hW2⟩ : ∃ W, W = W1.drewN nq := ⟨_, rfl⟩
  rw [← hW2] at MM2 ⊢
  obtain ⟨M1, M2, M3, M4, M5⟩ := MM2
  have a0 := M2.cell 0
  have b0 := M3.cell 0
  simp only [List.getElem?_toArray, List.getElem?_cons_zero] at a0 b0
  have hmg := merge_any (N ++ M) (uni N s s2) mn mn2 W2.drew M1 HS.out Hm1.out Hm2.out Hm3.out
  have hrb : ¬ w.heap.size ∈ N ++ M := fun e => by have := HM.out.lt e; omega
  have hhb : ¬ hb ∈ N ++ M := fun e => by rcases List.mem_append.1 e with e | e; exact HF.out.out e; exact HN1.out e
  have hhb2 : ¬ hb2 ∈ N ++ M := fun e => by rcases List.mem_append.1 e with e | e; exact HN3.out e; exact HF2.out.out e
  have hsub : ∀ k, SN (N ++ M) k → SH hb N k ∨ SH hb2 M k := fun k e => by rcases List.mem_append.1 e with e | e; exact Or.inl (Or.inr e); exact Or.inr (Or.inr e)
  obtain ⟨o3, ho3⟩ : ∃ o, o = mres (uni N s s2) mn mn2 := ⟨_, rfl⟩
  rw [← ho3] at hmg
  have hlb := HF.out.blk.lt
  have hlb2 := HF2.out.blk.lt
  have hr1 : w.heap.size ≠ hb := by omega
  have hr2 : w.heap.size ≠ hb2 := by omega
  have HMg : Hid (Calls Try.prog 50 #[op mn, op mn2] W2.drew fun r w' => r = .returned (op o3) ∧ MM w hb hb2 w.heap.size n1 n2 N M (mst (uni N s s2) mn mn2) mn mn2 w') := Lib.hid (by
    refine hmg.mono ?_
    rintro r w' ⟨k1, k2, k3⟩
    exact ⟨k1, k2, M2.drew.keep k3 hhb, M3.drew.keep k3 hhb2, M4.drew.keep k3 hrb, M5.drew.trans (k3.mono (fun k _ e => hsub k e))⟩)
  have HO3 := Lib.hid ho3
  have HR1 := Lib.hid hr1
  have HR2 := Lib.hid hr2
  have Hrb := Lib.hid hrb
  have Hhb := Lib.hid hhb
  have Hhb2 := Lib.hid hhb2
  clear hW2 M1 M2 M3 M4 M5 hmg ho3 hsub hlb hlb2 hr1 hr2 hrb hhb hhb2 a1 b1 HF1 HF22 HM HS Hm1 Hm2 Hm3 HB0
  go_step
  go_wp2_with fail
  go_upto_region 4 with fail
  go_cut [7] from 25 to 33 (fun v7 wx => v7 = op o3 ∧ MM w hb hb2 w.heap.size n1 n2 N M (mst (uni N s s2) mn mn2) mn mn2 wx)
  case first =>
    cases o3 with
    | none =>
      have HMg3 : Hid (Calls Try.prog 50 #[op mn, op mn2] W2.drew fun r w' => r = .returned (.pointer none) ∧ MM w hb hb2 w.heap.size n1 n2 N M (mst (uni N s s2) mn mn2) mn mn2 w') := Lib.hid HMg.out
      clear HMg
      go_region_with (go_at_call 50; refine HMg3.out.mono ?_; rintro r wy ⟨rfl, hM4⟩; have HM4 := Lib.hid hM4; clear hM4)
      all_goals go_wp2
      all_goals go_meet
      all_goals exact ⟨rfl, HM4.out⟩
    | some y =>
      have HMg3 : Hid (Calls Try.prog 50 #[op mn, op mn2] W2.drew fun r w' => r = .returned (.pointer (some ⟨y, 0, none⟩)) ∧ MM w hb hb2 w.heap.size n1 n2 N M (mst (uni N s s2) mn mn2) mn mn2 w') := Lib.hid HMg.out
      clear HMg
      go_region_with (go_at_call 50; refine HMg3.out.mono ?_; rintro r wy ⟨rfl, hM4⟩; have HM4 := Lib.hid hM4; clear hM4)
      all_goals go_wp2
      all_goals go_meet
      all_goals exact ⟨rfl, HM4.out⟩
  obtain ⟨rfl, M1, M2, M3, M4, M5⟩ := hcut
  obtain ⟨rb, hrbe⟩ : ∃ r, r = w.heap.size := ⟨_, rfl⟩
  rw [← hrbe] at M4 HR1 HR2 Hrb ⊢
  have hne := HNE.out
  have A1 := M2.set 0 (.pointer none)
  have A2 := A1.setOther (p := ⟨hb2, 0, none⟩) (Ne.symm hne) (.pointer none)
  have A3 := A2.set 1 (.int .u64 0)
  have A4 := A3.setOther (p := ⟨hb2, 1, none⟩) (Ne.symm hne) (.int .u64 0)
  have E1 := M3.setOther (p := ⟨hb, 0, none⟩) hne (.pointer none)
  have E2 := E1.set 0 (.pointer none)
  have E3 := E2.setOther (p := ⟨hb, 1, none⟩) hne (.int .u64 0)
  have E4 := E3.set 1 (.int .u64 0)
  have R1 := M4.setOther (p := ⟨hb, 0, none⟩) (Ne.symm HR1.out) (.pointer none)
  have R2 := R1.setOther (p := ⟨hb2, 0, none⟩) (Ne.symm HR2.out) (.pointer none)
  have R3 := R2.setOther (p := ⟨hb, 1, none⟩) (Ne.symm HR1.out) (.int .u64 0)
  have R4 := R3.setOther (p := ⟨hb2, 1, none⟩) (Ne.symm HR2.out) (.int .u64 0)
  have R5 := R4.set 0 (op o3)
  have R6 := R5.set 1 (.int .u64 ((n1 : Int) + n2))
  have k1 := M2.cell 0
  have k1f := M2.free 0
  have k2 := E1.cell 0
  have k2f := E1.free 0
  have k3 := A2.cell 1
  have k3f := A2.free 1
  have k4 := E3.cell 1
  have k4f := E3.free 1
  have k5 := R4.cell 0
  have k5f := R4.free 0
  have k6 := R4.cell 1
  have k6f := R4.free 1
  have k7 := R5.cell 1
  have k7f := R5.free 1
  have k8 := R6.cell 0
  have k9 := R6.cell 1
  simp only [List.getElem?_toArray, List.getElem?_cons_zero, List.getElem?_cons_succ, List.setIfInBounds_toArray, List.set_cons_zero, List.set_cons_succ] at k1 k2 k3 k4 k5 k6 k7 k8 k9
  have hmN : ∀ a ∈ N ++ M, a ≠ hb ∧ a ≠ hb2 ∧ a ≠ rb := fun a ha => ⟨fun e => Hhb.out (e ▸ ha), fun e => Hhb2.out (e ▸ ha), fun e => Hrb.out (e ▸ ha)⟩
  have FM : Mem (((((wc.setCell ⟨hb, 0, none⟩ (.pointer none)).setCell ⟨hb2, 0, none⟩ (.pointer none)).setCell ⟨hb, 1, none⟩ (.int .u64 0)).setCell ⟨hb2, 1, none⟩ (.int .u64 0)).setCell ⟨rb, 0, none⟩ (op o3)) (N ++ M) (mst (uni N s s2) mn mn2) := fun a ha => by
    obtain ⟨z1, z2, z3⟩ := hmN a ha
    exact (((((M1 a ha).setOther (p := ⟨hb, 0, none⟩) (Ne.symm z1) _).setOther (p := ⟨hb2, 0, none⟩) (Ne.symm z2) _).setOther (p := ⟨hb, 1, none⟩) (Ne.symm z1) _).setOther (p := ⟨hb2, 1, none⟩) (Ne.symm z2) _).setOther (p := ⟨rb, 0, none⟩) (Ne.symm z3) _
  have FM2 : Mem ((((((wc.setCell ⟨hb, 0, none⟩ (.pointer none)).setCell ⟨hb2, 0, none⟩ (.pointer none)).setCell ⟨hb, 1, none⟩ (.int .u64 0)).setCell ⟨hb2, 1, none⟩ (.int .u64 0)).setCell ⟨rb, 0, none⟩ (op o3)).setCell ⟨rb, 1, none⟩ (.int .u64 ((n1 : Int) + n2))) (N ++ M) (mst (uni N s s2) mn mn2) := fun a ha => (FM a ha).setOther (p := ⟨rb, 1, none⟩) (Ne.symm (hmN a ha).2.2) _
  have hrl : ∀ i, (⟨rb, i, none⟩ : Addr).block < w.heap.size → SH hb N rb ∨ SH hb2 M rb := fun i h => absurd h (by rw [hrbe]; exact Nat.lt_irrefl _)
  have FC := Ch.setCell (p := ⟨rb, 1, none⟩) (Ch.setCell (p := ⟨rb, 0, none⟩) (Ch.setCell (p := ⟨hb2, 1, none⟩) (Ch.setCell (p := ⟨hb, 1, none⟩) (Ch.setCell (p := ⟨hb2, 0, none⟩) (Ch.setCell (p := ⟨hb, 0, none⟩) M5 (fun _ => Or.inl (Or.inl rfl)) (.pointer none)) (fun _ => Or.inr (Or.inl rfl)) (.pointer none)) (fun _ => Or.inl (Or.inl rfl)) (.int .u64 0)) (fun _ => Or.inr (Or.inl rfl)) (.int .u64 0)) (hrl 0) (op o3)) (hrl 1) (.int .u64 ((n1 : Int) + n2))
  have FB1 := (A4.setOther (p := ⟨rb, 0, none⟩) HR1.out (op o3)).setOther (p := ⟨rb, 1, none⟩) HR1.out (.int .u64 ((n1 : Int) + n2))
  have FB2 := (E4.setOther (p := ⟨rb, 0, none⟩) HR2.out (op o3)).setOther (p := ⟨rb, 1, none⟩) HR2.out (.int .u64 ((n1 : Int) + n2))
  simp only [List.setIfInBounds_toArray, List.set_cons_zero, List.set_cons_succ] at FB1 FB2
  have HFM := Lib.hid FM2
  have HFC := Lib.hid FC
  have HFB1 := Lib.hid FB1
  have HFB2 := Lib.hid FB2
  have HK8 := Lib.hid k8
  have HK9 := Lib.hid k9
  clear k5 k6 k5f k6f k7 k7f M1 M2 M3 M4 M5 A1 A2 A3 A4 E1 E2 E3 E4 R1 R2 R3 R5 R6 hmN FM FM2 FC FB1 FB2 k8 k9 hrl hne a0 b0 HMg
  go_step
  go_upto_region 9 with fail
  obtain ⟨X4, hX4⟩ : ∃ X, X = ((((wc.setCell ⟨hb, 0, none⟩ (.pointer none)).setCell ⟨hb2, 0, none⟩ (.pointer none)).setCell ⟨hb, 1, none⟩ (.int .u64 0)).setCell ⟨hb2, 1, none⟩ (.int .u64 0)) := ⟨_, rfl⟩
  rw [← hX4] at R4 HFM HFC HFB1 HFB2 HK8 HK9 ⊢
  have k5 := R4.cell 0
  have k5f := R4.free 0
  have k6 := R4.cell 1
  have k6f := R4.free 1
  simp only [List.getElem?_toArray, List.getElem?_cons_zero, List.getElem?_cons_succ] at k5 k6
  clear hX4 R4 k1 k1f k2 k2f k3 k3f k4 k4f hrbe hl0 hl1 hl2
  cases o3 with
  | none =>
    dsimp only [op] at HFM HFC HFB1 HFB2 HK8 HK9 ⊢
    go_wp2_with fail
    obtain ⟨X6, hX6⟩ : ∃ X, X = ((X4.setCell ⟨rb, 0, none⟩ (.pointer none)).setCell ⟨rb, 1, none⟩ (.int .u64 ((n1 : Int) + n2))) := ⟨_, rfl⟩
    rw [← hX6] at HFM HFC HFB1 HFB2 HK8 HK9 ⊢
    have z1 := HK8.out
    have z2 := HK9.out
    refine bodyPost_ret (v := .tuple #[.agg #[.pointer none, .int .u64 ((n1 : Int) + n2)], .nilIface]) (by simp [results, Try.results42, go_sem, z1, z2]) rfl ⟨?_, HFM.out, HFB1.out, HFB2.out, HFC.out⟩
    rw [← HO3.out, Hn1.out, Hn2.out]; rfl
  | some y =>
    dsimp only [op] at HFM HFC HFB1 HFB2 HK8 HK9 ⊢
    go_wp2_with fail
    obtain ⟨X6, hX6⟩ : ∃ X, X = ((X4.setCell ⟨rb, 0, none⟩ (.pointer (some ⟨y, 0, none⟩))).setCell ⟨rb, 1, none⟩ (.int .u64 ((n1 : Int) + n2))) := ⟨_, rfl⟩
    rw [← hX6] at HFM HFC HFB1 HFB2 HK8 HK9 ⊢
    have z1 := HK8.out
    have z2 := HK9.out
    refine bodyPost_ret (v := .tuple #[.agg #[.pointer (some ⟨y, 0, none⟩), .int .u64 ((n1 : Int) + n2)], .nilIface]) (by simp [results, Try.results42, go_sem, z1, z2]) rfl ⟨?_, HFM.out, HFB1.out, HFB2.out, HFC.out⟩
    rw [← HO3.out, Hn1.out, Hn2.out]; rfl
end Go.Proofs.Ytbfcnimebdoagaa
