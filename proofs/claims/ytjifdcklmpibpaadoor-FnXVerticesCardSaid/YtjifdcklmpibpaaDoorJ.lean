/- WALKS: Adj, GRAdj. -/
import Derived.Test.YtjifdcklmpibpaaDoorH
namespace Go.Proofs.YtjifdcklmpibpaaDoor
open Go.RowKit
set_option linter.unusedVariables false
set_option linter.unusedSimpArgs false

/-- The row of neighbours behind some rounds. -/
def adjRow (done : List Int) (n : Nat) : List Value := done.map (fun k => ik 3 .i64 k) ++ List.replicate (n - done.length) .nilIface
theorem adjRow_set (done : List Int) (n : Nat) (k : Int) (h : done.length < n) : (adjRow done n).toArray.setIfInBounds done.length (ik 3 .i64 k) = (adjRow (done ++ [k]) n).toArray := by
  have e : n - done.length = (n - (done ++ [k]).length) + 1 := by simp; omega
  unfold adjRow
  rw [e, List.replicate_succ]
  simp [List.set_append]

theorem adjRow_at (done : List Int) (n : Nat) (h : done.length < n) : (adjRow done n).toArray[done.length]? = some .nilIface := by
  have e : n - done.length = (n - done.length - 1) + 1 := by omega
  unfold adjRow
  rw [e, List.replicate_succ]
  simp

theorem Tryd.info20 : (Tryd.prog.info? 20).map (fun i => (i.zero, i.size, i.bytes)) = some (some .nilIface, 1, 16) := by kernel_rfl

set_option maxRecDepth 100000 in
theorem adj_there {w : World} {B g ob : Nat} {vs : Int → Option Nat} {G : PG} (k : Int) (h : GR w B g ob vs G) (hk : G.ver k = true) (hd : G.deg k ≤ 1000) :
    Calls Tryd.prog 21 #[.pointer (some ⟨g, 0, none⟩), .iface 3 (.int .i64 k)] w fun r w' => ∃ (done : List Int) (ab : Nat), r = .returned (.tuple #[.slice (some ⟨ab, 0, none⟩) (G.deg k) (G.deg k), .nilIface]) ∧ done.length = G.deg k ∧ done.Nodup ∧ (∀ y, y ∈ done ↔ G.adj k y = true) ∧ Rd w' (some ⟨ab, 0, none⟩) (done.map fun y => ik 3 .i64 y) ∧ Ch S0 w w' := by
  obtain ⟨b, hb⟩ : ∃ b, vs k = some b := by
    have : (vs k).isSome = true := by rw [h.ver]; exact hk
    exact Option.isSome_iff_exists.1 this
  have HD := Lib.hid (deg_there k h hk)
  have HI := Lib.hid (h.gg.inn k b hb)
  have HO := Lib.hid h.gg.out
  have c0 := h.gg.blk.cell 0
  simp only [List.getElem?_toArray, List.getElem?_cons_zero] at c0
  have hgl := h.gg.blk.lt
  have fv : ((fun k => (vs k).map fun b => Value.map (some b)) k) = some (.map (some b)) := by simp [hb]
  obtain ⟨d, hde⟩ : ∃ d, G.deg k = d := ⟨_, rfl⟩
  rw [hde] at hd HI HD
  rw [hde]
  clear h hk hb hde
  go_enter Tryd.func21, Tryd.ntmps21
  go_wp2_with fail
  refine HD.out.mono ?_
  rintro r w1 ⟨rfl, rfl⟩
  have hmk : (Instr.makeSlice 57 (.int .i64 (d : Int)) (.int .i64 (d : Int))).run Tryd.prog w = .ok (.slice (some ⟨w.heap.size, 0, none⟩) d d) (w.alloc (.cells (Array.replicate d .nilIface) 20)) := make_one Tryd.underlying57 Tryd.info20 rfl .i64 .i64 d d (Nat.le_refl _) (by omega) (by omega) w
  have HBk := Lib.hid (Blk.new w (Array.replicate d .nilIface) 20)
  have HC1 := Lib.hid ((Ch.refl S0 w).alloc (.cells (Array.replicate d .nilIface) 20))
  have HI1 := Lib.hid (HI.out.keep ((MapKept.heap_alloc w (.cells (Array.replicate d .nilIface) 20)).2 b HI.out.lt))
  have HO1 := Lib.hid (HO.out.keep ((MapKept.heap_alloc w (.cells (Array.replicate d .nilIface) 20)).2 ob HO.out.lt))
  have hbl := HI.out.lt
  have HBl := Lib.hid hbl
  clear hbl
  go_wp2_with (first | (at_lookup; go_loud (refine wpList_ilook _ rfl (.tmp 25) (.tmp 26) 65 rfl 68 ikey Tryd.underlying65 (zero68 _) ob _ _ rfl HO1.out k rfl ?_; simp only [fv, Option.getD_some])) | (at_range; go_loud (refine wpList_irange _ rfl (.tmp 27) 68 rfl 82 Tryd.underlying68 b d _ rfl HI1.out (w.heap.size + 1) (by simp) ?_; intro w3 hR hgr hsz; have HR := Lib.hid hR; have HGr := Lib.hid hgr; have HSz := Lib.hid hsz; clear hR hgr hsz)))
  go_frame
  have hS3 : w3.heap.size = w.heap.size + 2 := HSz.out
  have HC3 := Lib.hid (HC1.out.trans (Ch.ofGrown HGr.out (fun k hk => (by cases hk))))
  have hbk3 : Blk w3 w.heap.size (adjRow [] d).toArray := by
    have := HBk.out.keep (Ch.ofGrown (S := S0) HGr.out (fun k hk => (by cases hk))) (fun h => h)
    simpa [adjRow] using this
  have HBk3 := Lib.hid hbk3
  have hrl := HR.out.nodup.2.2
  have HRl := Lib.hid hrl
  clear hbk3 hrl
  go_loopw [9] (fun vi wr => ∃ done : List Int, done.length ≤ d ∧ vi = .int .i64 (done.length : Nat) ∧ IRange 3 .i64 wr b (w.heap.size + 1) (fun y => if G.adj k y = true then some (Value.agg #[]) else none) d done ∧ Blk wr w.heap.size (adjRow done d).toArray ∧ Ch S0 w wr) (fun vi _ => d - (intOf vi).toNat)
  case atStart => exact ⟨[], by simp, rfl, by simpa using HR.out, HBk3.out, HC3.out⟩
  case round =>
    obtain ⟨done, hdl, rfl, hR, hB, hC⟩ := hrel
    have HR := Lib.hid hR
    have HB := Lib.hid hB
    have HC := Lib.hid hC
    have HDl := Lib.hid hdl
    clear hR hB hC hdl
    have hic : ∀ m : Nat, done.length < m → decide ((done.length : Int) < (m : Int)) = true := fun m h => by simp; omega
    have hbl := (Blk.lt HB.out)
    have hfr := HB.out.free done.length
    go_wp2_with (at_next; go_loud (refine wpList_inext _ rfl (.tmp 28) rfl b (w.heap.size + 1) d _ done rfl HR.out ?dn ?mr; (case' dn => (intro hdone hall; have HDone := Lib.hid hdone; have HAll := Lib.hid hall; clear hdone hall)); (case' mr => (intro y v w5 hf hny hlt hR5 hgr5 hsz5 hen; have hlti : (done.length : Int) < (d : Int) := (by omega); have HR5 := Lib.hid hR5; have HNy := Lib.hid hny; have HGr5 := Lib.hid hgr5; have hb5 := HB.out.keep (Ch.ofGrown (S := fun k => k = w.heap.size + 1) hgr5 (fun k hk => (Option.some.inj hk).symm)) (fun e => by omega); have HB5 := Lib.hid hb5; have hf5 := hb5.free done.length; have hc5 := (hb5.cell done.length).trans (adjRow_at done d hlt); clear hR5 hny hgr5 hb5 hf))))
    · go_roundw
      case rel => 
        have hlt : done.length < d := by omega
        have c5 : Ch S0 w w5 := HC.out.trans' (Ch.ofGrown (S := fun k => k = w.heap.size + 1) HGr5.out (fun k hk => (Option.some.inj hk).symm)) (fun i hi hs => by omega)
        have hne : ∀ q, q ≠ w.heap.size → (w5.setCell ⟨w.heap.size, done.length, none⟩ (.iface 3 (.int .i64 y))).heap[q]? = w5.heap[q]? := fun q hq => Below.heap_setCell _ _ _ _ hq
        refine ⟨done ++ [y], by simp; omega, by simp, HR5.out.keep (hne b (by have := HBl.out; omega)) (hne _ (by omega)), ?_, c5.setCell _ (fun h => by simp at h) _⟩
        rw [← adjRow_set done d y hlt]
        exact HB5.out.set done.length _
      case measure => simp [intOf]; omega
    · go_ret2
      have hn := HR.out.nodup
      have hdd := HDone.out
      refine ⟨done, w.heap.size, rfl, hdd, hn.1, fun y => ⟨fun h => ?_, fun h => HAll.out y (by simp [h])⟩, ?_, HC.out⟩
      · have := hn.2.1 y h
        by_cases ha : G.adj k y = true
        · exact ha
        · simp [ha] at this
      · have h1 := Rd.blk HB.out
        have e : (adjRow done d).toArray.toList = done.map (fun y => ik 3 .i64 y) := by simp [adjRow, hdd]
        rw [e] at h1
        exact h1
end Go.Proofs.YtjifdcklmpibpaaDoor
