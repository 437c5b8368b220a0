/- SETS: Flatten. -/
import Derived.Test.YtjifdcklmpibpaaT2
import Derived.Deep.DeepCutAuto
import Derived.Deep.RegionLaw
namespace Go.Proofs.Ytjifdcklmpibpaa
open Go.RowKit
set_option linter.unusedVariables false
set_option linter.unusedSimpArgs false

theorem Try.infoI : (Try.prog.info? 20).map (fun i => (i.zero, i.size, i.bytes)) = some (some .nilIface, 1, 16) := by kernel_rfl

/-- What Flatten gives, and leaves. -/
def Flats (w : World) (s mb : Nat) (S : Int → Bool) (n : Nat) (r : Ending) (w' : World) : Prop := ∃ (done : List Int) (a : Addr) (cap : Nat), r = .returned (.slice (some a) n cap) ∧ done.length = n ∧ done.Nodup ∧ (∀ y, y ∈ done ↔ S y = true) ∧ SetM w' s mb (.slice (some a) n cap) S n ∧ w'.ownsRow w.heap.size 20 1 (.slice (some a) n cap) n (fv done)

theorem own_slice {w : World} {base e size n : Nat} {v : Value} {xs : List Value} (h : w.ownsRow base e size v n xs) (hne : v ≠ .slice none 0 0) : ∃ g cap, v = .slice (some ⟨g, 0, none⟩) n cap := by
  rcases h.2 with ⟨e, _⟩ | ⟨g, cap, cur, e, _⟩
  · exact absurd e hne
  · exact ⟨g, cap, e⟩

set_option maxRecDepth 100000 in
theorem flat_first (s mb n : Nat) (S : Int → Bool) (w : World) (h : SetM w s mb (.slice none 0 0) S n) (hn : n ≤ 1000000) :
    Calls Try.prog 20 #[.pointer (some ⟨s, 0, none⟩)] w fun r w' => Flats w s mb S n r w' ∧ Ch (S1 s) w w' := by
  have HH := Lib.hid h
  have d0 := h.blk.cell 0
  have d1 := h.blk.cell 1
  have f1 := h.blk.free 1
  have hsl := h.blk.lt
  simp only [List.getElem?_toArray, List.getElem?_cons_zero, List.getElem?_cons_succ] at d0 d1
  have hnn := run_neq_slice_nil_any (P := Try.prog) w 44 20 none 0 0 0 0 Try.underlying44
  have hl := h.map.len (P := Try.prog) Try.underlying54 3
  have hmk : (Instr.makeSlice 44 (.int .i64 0) (.int .i64 (n : Int))).run Try.prog w = .ok (.slice (some ⟨w.heap.size, 0, none⟩) 0 n) (w.alloc (.cells (Array.replicate n .nilIface) 20)) := make_one Try.underlying44 Try.infoI rfl .i64 .i64 0 n (Nat.zero_le _) (by omega) (by omega) w
  obtain ⟨wz, hwz⟩ : ∃ wz, wz = w.setCell ⟨s, 1, none⟩ (.slice (some ⟨w.heap.size, 0, none⟩) 0 n) := ⟨_, rfl⟩
  obtain ⟨w2, hw2⟩ : ∃ w2, w2 = wz.alloc (.cells (Array.replicate n .nilIface) 20) := ⟨_, rfl⟩
  have hCz : Ch (S1 s) w wz := by rw [hwz]; exact (Ch.refl (S1 s) w).setCell ⟨s, 1, none⟩ (fun _ => rfl) _
  have hzs : wz.heap.size = w.heap.size := by rw [hwz]; simp
  have hBz : Blk wz s #[.map (some mb), .slice (some ⟨w.heap.size, 0, none⟩) 0 n] := by
    rw [hwz]
    simpa using h.blk.set 1 (.slice (some ⟨w.heap.size, 0, none⟩) 0 n)
  have hC2 : Ch (S1 s) w w2 := by rw [hw2]; exact hCz.alloc _
  have hsz2 : w2.heap.size = w.heap.size + 1 := by rw [hw2]; simp [hzs]
  have hB2 : Blk w2 s #[.map (some mb), .slice (some ⟨w.heap.size, 0, none⟩) 0 n] := by
    rw [hw2]
    exact hBz.alloc _
  have hM2 : KMap kI w2 mb (fun k => if S k then some (.agg #[]) else none) n := h.map.keep (hC2.block _ h.map.lt h.ne)
  have hO2 : w2.ownsRow w.heap.size 20 1 (.slice (some ⟨w.heap.size, 0, none⟩) 0 n) 0 [] := by
    have h1 := World.ownsRow_made wz (e := 20) (size := 1) (base := w.heap.size) (Array.replicate n .nilIface) n (by omega) (by unfold maxLen; omega) (by simp)
    rw [hw2]
    rw [hzs] at h1
    exact h1
  rw [hwz] at hw2
  have e0 := hB2.cell 0
  simp only [List.getElem?_toArray, List.getElem?_cons_zero] at e0
  have HW2 := Lib.hid hw2
  have HC2 := Lib.hid hC2
  have HB2 := Lib.hid hB2
  have HM2 := Lib.hid hM2
  have HO2 := Lib.hid hO2
  have HNe := Lib.hid h.ne
  have hml := h.map.lt
  have HMl := Lib.hid hml
  clear h hw2 hwz hCz hzs hBz hC2 hB2 hM2 hO2 hml
  go_enter Try.func20, Try.ntmps20
  go_upto_region 4 with fail
  rw [← HW2.out]
  go_wp2_with (at_range; go_loud (refine wpList_krange _ rfl (.tmp 25) 54 rfl 57 Try.underlying54 mb n _ rfl HM2.out (w.heap.size + 1) hsz2 ?_; intro w3 hR hgr hsz; have HR := Lib.hid hR; have HGr := Lib.hid hgr; have HSz := Lib.hid hsz; clear hR hgr hsz))
  go_frame
  have hC3 : Ch (S1 s) w w3 := HC2.out.trans (Ch.ofGrown HGr.out (fun k hk => (by cases hk)))
  have hB3 := HB2.out.keep (Ch.ofGrown (S := S0) HGr.out (fun k hk => (by cases hk))) (fun h => h)
  have hO3 := own_keep0 HO2.out (Ch.ofGrown (S := S0) HGr.out (fun k hk => (by cases hk)))
  have HC3 := Lib.hid hC3
  have HB3 := Lib.hid hB3
  have HO3 := Lib.hid hO3
  clear hC3 hB3 hO3 e0
  go_loopw [3] (fun vk wr => ∃ (done : List Int) (v : Value), done.length ≤ n ∧ v ≠ .slice none 0 0 ∧ KRange kI wr mb (w.heap.size + 1) (fun k => if S k then some (.agg #[]) else none) n done ∧ wr.ownsRow w.heap.size 20 1 v done.length (fv done) ∧ Blk wr s #[.map (some mb), v] ∧ (∀ g, v.ownBlock = some g → g ≠ w.heap.size + 1) ∧ w.heap.size + 1 < wr.heap.size ∧ Ch (S1 s) w wr) (fun _ wr => n - World.came wr (w.heap.size + 1))
  case atStart => exact ⟨[], _, by simp, by simp, HR.out, HO3.out, HB3.out, fun g hg e => by have e1 : w.heap.size = g := Option.some.inj hg; omega, by rw [HSz.out]; omega, HC3.out⟩
  case round =>
    obtain ⟨done, v, hdl, hvn, hR, hO, hB, hgn, hsw, hC⟩ := hrel
    have HR := Lib.hid hR
    have HO := Lib.hid hO
    have HB := Lib.hid hB
    have HC := Lib.hid hC
    have HDl := Lib.hid hdl
    have HVn := Lib.hid hvn
    have HGn := Lib.hid hgn
    clear hR hO hB hC hdl hvn hgn
    go_wp2_with (first | (at_next; go_loud (refine wpList_knext _ kEnc rfl (.tmp 26) rfl mb (w.heap.size + 1) n _ done rfl HR.out ?dn ?mr; (case' dn => (intro hdone hall; have HDone := Lib.hid hdone; have HAll := Lib.hid hall; have e1 := HB.out.cell 1; simp only [List.getElem?_toArray, List.getElem?_cons_zero, List.getElem?_cons_succ] at e1; clear hdone hall)); (case' mr => (intro y u w5 hf hny hlt hR5 hgr5 hsz5 hen; have HR5 := Lib.hid hR5; have HNy := Lib.hid hny; have HGr5 := Lib.hid hgr5; have hc5 := (Ch.ofGrown (S := fun k => k = w.heap.size + 1) hgr5 (fun k hk => (Option.some.inj hk).symm)); have hb5 := HB.out.keep hc5 (fun e => by omega); have ho5 := own_keepS HO.out hc5 (fun g hg e => HGn.out g hg e); have HC5 := Lib.hid hc5; have HB5 := Lib.hid hb5; have HO5 := Lib.hid ho5; have e1 := hb5.cell 1; have g1 := hb5.free 1; have hsl5 := hb5.lt; have hsw5 : w.heap.size + 1 < w5.heap.size := (by omega); simp only [List.getElem?_toArray, List.getElem?_cons_zero, List.getElem?_cons_succ] at e1; clear hR5 hny hgr5 hb5 ho5 hc5 hf hsz5)))) | (at_builtin; go_loud (refine app_own elI rfl (.tmp 35) (.tmp 37) rfl w.heap.size done.length v (fv done) rfl HO5.out [kI y] rfl (by simp [Value.oneCell']) _ rfl rfl (by unfold maxLen; omega) (by omega) (by omega) ?_); intro v' w6 hown6 hc6 hb6; obtain ⟨A6, cap6, rfl, _⟩ := own_rd hown6; have HOw := Lib.hid hown6; have HC6 := Lib.hid hc6; have HBk6 := Lib.hid hb6; have hbs := HB5.out.keep hc6 (fun e => absurd (own_lt HO5.out s e).1 (by omega)); have HBs := Lib.hid hbs; have q1 := hbs.cell 1; have t1 := hbs.free 1; simp only [List.getElem?_toArray, List.getElem?_cons_zero, List.getElem?_cons_succ] at q1; clear hown6 hc6 hb6 hbs))
    · go_roundw
      case rel =>
        have hlt : done.length < n := by omega
        have hst : Ch (S1 s) w6 (w6.setCell ⟨s, 1, none⟩ (.slice A6 (done.length + 1) cap6)) := (Ch.refl (S1 s) w6).setCell ⟨s, 1, none⟩ (fun _ => rfl) _
        have hc6 : Ch (fun k => v.ownBlock = some k ∨ k = s) w5 (w6.setCell ⟨s, 1, none⟩ (.slice A6 (done.length + 1) cap6)) := (HC6.out.mono fun _ _ h => Or.inl h).trans (hst.mono fun _ _ h => Or.inr h)
        have hvs : ∀ g, v.ownBlock = some g → w.heap.size ≤ g ∧ g < w5.heap.size := own_lt HO5.out
        have hgrow : ∀ g, (Value.slice A6 (done.length + 1) cap6).ownBlock = some g → g ≠ s ∧ g ≠ w.heap.size + 1 := fun g hg => by
          rcases HBk6.out with e | e
          · rw [e] at hg
            have := hvs g hg
            have := HGn.out g hg
            omega
          · rw [e] at hg
            have := Option.some.inj hg
            omega
        refine ⟨done ++ [y], _, by simp; omega, by simp, ?_, ?_, ?_, fun g hg => (hgrow g hg).2, ?_, ?_⟩
        · have hmb : ¬ (v.ownBlock = some mb ∨ mb = s) := fun e => e.elim (fun e => by have := hvs _ e; have := HMl.out; omega) HNe.out
          have hit : ¬ (v.ownBlock = some (w.heap.size + 1) ∨ w.heap.size + 1 = s) := fun e => e.elim (fun e => HGn.out _ e rfl) (fun e => by omega)
          exact HR5.out.keep (hc6.block _ (by have := HMl.out; omega) hmb) (hc6.block _ hsw5 hit)
        · have := own_keepS HOw.out hst (fun g hg e => (hgrow g hg).1 e)
          simpa [fv_snoc] using this
        · have := HBs.out.set 1 (.slice A6 (done.length + 1) cap6)
          simpa using this
        · have := hc6.size
          omega
        · exact (HC.out.trans' HC5.out (fun i hi hs => by omega)).trans' hc6 (fun i hi hs => hs.elim (fun e => by have := hvs _ e; omega) (fun e => e))
      case measure =>
        have hlt : done.length < n := by omega
        have e1 := HR.out.came
        have e2 : World.came (w6.setCell ⟨s, 1, none⟩ (.slice A6 (done.length + 1) cap6)) (w.heap.size + 1) = World.came w5 (w.heap.size + 1) := by
          have hne : (w6.setCell ⟨s, 1, none⟩ (.slice A6 (done.length + 1) cap6)).heap[w.heap.size + 1]? = w5.heap[w.heap.size + 1]? := by
            rw [Below.heap_setCell _ _ _ _ (by show w.heap.size + 1 ≠ s; omega)]
            exact HC6.out.block _ hsw5 (fun e => HGn.out _ e rfl)
          simp only [World.came, hne]
        have e3 := HR5.out.came
        simp at e3
        omega
    · obtain ⟨g, cap, rfl⟩ := own_slice HO.out HVn.out
      go_ret
      have hn := HR.out.nodup
      have hdd := HDone.out
      have hO := HO.out
      have hB := HB.out
      rw [hdd] at hO hB
      refine ⟨⟨done, _, _, by rw [hdd]; rfl, hdd, hn.1, fun y => ⟨fun h => ?_, fun h => HAll.out y (by simp [h])⟩, ⟨hB, HR.out.map, HNe.out⟩, hO⟩, HC.out⟩
      have := hn.2.1 y h
      by_cases ha : S y = true
      · exact ha
      · simp [ha] at this

theorem flat_again (s mb n m cap : Nat) (a : Addr) (S : Int → Bool) (w : World) (h : SetM w s mb (.slice (some a) m cap) S n) :
    Calls Try.prog 20 #[.pointer (some ⟨s, 0, none⟩)] w fun r w' => r = .returned (.slice (some a) m cap) ∧ w' = w := by
  have d1 := h.blk.cell 1
  simp only [List.getElem?_toArray, List.getElem?_cons_zero, List.getElem?_cons_succ] at d1
  have hnn := run_neq_slice_nil_any (P := Try.prog) w 44 20 (some a) m cap 0 0 Try.underlying44
  clear h
  go_enter Try.func20, Try.ntmps20
  go_wp2_with fail
  go_ret
  exact ⟨rfl, rfl⟩
end Go.Proofs.Ytjifdcklmpibpaa
