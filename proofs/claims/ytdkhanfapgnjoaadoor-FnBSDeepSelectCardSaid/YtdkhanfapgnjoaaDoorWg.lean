/- WALKS: bsBits, BSMake. -/
import Derived.Test.YtdkhanfapgnjoaaDoorWf
namespace Go.Proofs.YtdkhanfapgnjoaaDoor
open Go.RowKit
set_option linter.unusedVariables false
set_option linter.unusedSimpArgs false

/-- A row of bools in block q. -/
def Row (w : World) (q : Nat) (bs : List Bool) : Prop := Blk w q (bs.map Value.bool).toArray

theorem Row.cell {w : World} {q : Nat} {bs : List Bool} (h : Row w q bs) (i : Nat) (hi : i < bs.length) : w.cell? ⟨q, i, none⟩ = some (.bool (bs.getD i false)) := by
  rw [Blk.cell h]
  simp [hi, List.getD]

theorem Row.set {w : World} {q : Nat} {bs : List Bool} (h : Row w q bs) (i : Nat) (x : Bool) : Row (w.setCell ⟨q, i, none⟩ (.bool x)) q (bs.set i x) := by
  have := Blk.set h i (.bool x)
  unfold Row
  rw [show ((bs.set i x).map Value.bool).toArray = (bs.map Value.bool).toArray.setIfInBounds i (.bool x) by simp [List.map_set]]
  exact this

set_option maxHeartbeats 400000 in
/-- BSMake: the bitset of a row of bools. -/
theorem make_any (q cap : Nat) (bs : List Bool) (w : World) (h : Row w q bs) (hn : bs.length ≤ 20000) :
    Calls Tryd.prog 15 #[.slice (some ⟨q, 0, none⟩) bs.length cap] w fun e w' => ∃ v, e = .returned v ∧ IsB w.heap.size w' v bs.length (fun k => bs.getD k false) ∧ Ch S0 w w' := by
  have hq : q < w.heap.size := Blk.lt h
  have hX : Stays w.heap.size (fun wr => Row wr q bs) := fun w1 w2 hc hb => Blk.keep hb hc (by omega)
  have hoff : ∀ k, bs.length ≤ k → bs.getD k false = false := fun k hk => by simp [List.getD, hk]
  have hI : SaidInv w (fun wr => Row wr q bs) ((w.alloc (Obj.cells #[Value.int IntKind.u64 0, Value.slice none 0 0] 25)).alloc (Obj.cells #[Value.int IntKind.u64 ↑bs.length, Value.slice none 0 0] 25)) bs.length (fun k => bs.getD k false) 0 (.slice none 0 0) := by
    have hc : Ch S0 w ((w.alloc (Obj.cells #[Value.int IntKind.u64 0, Value.slice none 0 0] 25)).alloc (Obj.cells #[Value.int IntKind.u64 ↑bs.length, Value.slice none 0 0] 25)) := ((Ch.refl _ _).alloc _).alloc _
    refine ⟨(Blk.new _ _ _).alloc _, ?_, World.ownsRow_nil _ _ _ _, Blk.keep h hc (fun h => h), hc⟩
    have := Blk.new (w.alloc (Obj.cells #[Value.int IntKind.u64 0, Value.slice none 0 0] 25)) #[Value.int IntKind.u64 ↑bs.length, Value.slice none 0 0] 25
    simpa using this
  have H := Lib.hid h
  have HX := Lib.hid hX
  have HO := Lib.hid hoff
  clear h hX hoff
  go_enter Tryd.func15, Tryd.ntmps15
  go_wp2_with fail
  go_loopw [4] (fun k wr => ∃ (m : Nat) (v : Value), m ≤ bs.length ∧ k = .int .i64 m ∧ SaidInv w (fun wr => Row wr q bs) wr bs.length (fun k => bs.getD k false) m v) (fun k _ => bs.length - (intOf k).toNat)
  case atStart => exact ⟨0, _, Nat.zero_le _, rfl, hI⟩
  case round =>
    obtain ⟨m, v, hm, rfl, hJ⟩ := hrel
    have c0 : wr.cell? ⟨w.heap.size + 1, 0, none⟩ = some (.int .u64 bs.length) := by rw [hJ.blk.cell]; rfl
    have c1 : wr.cell? ⟨w.heap.size + 1, 1, none⟩ = some v := by rw [hJ.blk.cell]; rfl
    by_cases hlt : m < bs.length
    · have cm := hJ.aux.cell m hlt
      have HJ := Lib.hid hJ
      clear hI
      cases hg : bs.getD m false
      · rw [hg] at cm
        have Hg := Lib.hid hg
        clear hg hJ
        go_wp2
        go_roundw
        case rel => exact ⟨m + 1, v, by omega, by go_num, HJ.out.skip Hg.out⟩
        case measure => simp [intOf]; omega
      · rw [hg] at cm
        have Hg := Lib.hid hg
        have hown := hJ.own
        have hsz := hJ.blk.lt
        have hpl := places_len (fun k => bs.getD k false) m
        clear hg hJ
        go_wp2_with (at_builtin; go_loud (refine app22 rfl _ _ rfl (w.heap.size + 2) _ v _ rfl hown (.int .u64 (m : Nat)) rfl rfl (by omega) (by omega) ?_); intro A' n' c' w3 hown3 hgr3; obtain ⟨⟨q0, q1⟩, hfin⟩ := HJ.out.grow HX.out Hg.out hown3 hgr3; have HF := Lib.hid hfin; clear hown3 hgr3 hfin)
        go_roundw
        case rel => exact ⟨m + 1, _, by omega, by go_num, HF.out⟩
        case measure => simp [intOf]; omega
    · have hm2 : m = bs.length := by omega
      subst hm2
      have r0 : wr.cell? ⟨w.heap.size, 0, none⟩ = some (.int .u64 0) := by rw [hJ.res.cell]; rfl
      have r1 : wr.cell? ⟨w.heap.size, 1, none⟩ = some (.slice none 0 0) := by rw [hJ.res.cell]; rfl
      have q0 := hJ.res.free 0
      have q1 := hJ.res.free 1
      have HD := Lib.hid (hJ.done (by omega) HO.out)
      obtain ⟨A, n, c, rfl⟩ : ∃ A n c, v = .slice A n c := by
        rcases hJ.own.2 with ⟨rfl, _⟩ | ⟨g, cap, cur, rfl, _⟩ <;> exact ⟨_, _, _, rfl⟩
      clear hJ hI
      go_wp2
      exact bodyPost_ret (v := .agg #[.int .u64 bs.length, .slice A n c]) (by simp [results, Tryd.results15, go_sem, r0, r1, q0, q1]) rfl ⟨_, rfl, HD.out.1.mono (by omega), HD.out.2⟩

theorem Tryd.info4 : (Tryd.prog.info? 4).map (fun i => (i.zero, i.size, i.bytes)) = some (some (.bool false), 1, 1) := by kernel_rfl

theorem cells_bool (n : Nat) : madeCells (Value.bool false).cells n = ((List.replicate n false).map Value.bool).toArray := by
  apply Array.ext
  · simp [madeCells]
  · intro i h1 h2
    simp [madeCells, Value.cells, Nat.mod_one]

theorem make53 (n : Nat) (x : Int) (hx : x = n) (hc : n ≤ 1000000) (w : World) :
    (Instr.makeSlice 39 (.int .u64 x) (.int .u64 x)).run Tryd.prog w = .ok (.slice (some ⟨w.heap.size, 0, none⟩) n n) (w.alloc (.cells ((List.replicate n false).map Value.bool).toArray 4)) := by
  subst hx
  obtain ⟨i0, hi, hz0, hz1, hz2⟩ := info_parts Tryd.info4
  have := run_make (P := Tryd.prog) w 39 4 i0 (.bool false) Tryd.underlying39 hi hz0 .u64 .u64 n n (by omega) (by omega) (by rw [hz2]; omega) (by omega)
  rw [this, hz1, Nat.mul_one, cells_bool]
  simp

/-- bsBits behind some rounds. -/
structure BitsInv (W wr : World) (v : Value) (l N : Nat) (bs : List Bool) : Prop where
  arg : Blk wr W.heap.size #[.int .u64 l, v]
  res : Blk wr (W.heap.size + 1) #[.int .u64 0, .slice none 0 0]
  len : bs.length = N
  row : Row wr (W.heap.size + 1 + 1) bs
  ch : Ch S0 W wr

theorem BitsInv.step {W wr : World} {v : Value} {l N : Nat} {bs : List Bool} (h : BitsInv W wr v l N bs) (i : Nat) : BitsInv W (wr.setCell ⟨W.heap.size + 1 + 1, i, none⟩ (.bool true)) v l N (bs.set i true) :=
  ⟨h.arg.setOther (by simp; omega) _, h.res.setOther (by simp) _, by simpa using h.len, h.row.set i true, h.ch.setCell _ (fun hl => by simp at hl; omega) _⟩

set_option maxRecDepth 100000 in
set_option maxHeartbeats 400000 in
theorem bits_any {base : Nat} (l : Nat) (v : Value) (xs : List Nat) (w : World) (h : Lst base w v xs) (hx : ∀ j (hj : j < xs.length), xs[j] < 18446744073709551616) (hn : xs.length ≤ 140737488351232) :
    Calls Tryd.prog 6 #[.agg #[.int .u64 l, v]] w fun e w' => ∃ v' L g, e = .returned v' ∧ L ≤ 400 ∧ IsB w.heap.size w' v' L g ∧ Ch S0 w w' := by
  obtain ⟨A, cap, rfl, HA0⟩ := h
  obtain ⟨N, hNe⟩ : ∃ N, l % 401 = N := ⟨_, rfl⟩
  have hN : N ≤ 400 := by omega
  have e401 : (l : Int) % 401 = (N : Int) := by omega
  have hmk := make53 N _ e401 (by omega)
  have hI : BitsInv w (((w.alloc (Obj.cells #[Value.int IntKind.u64 ↑l, Value.slice A xs.length cap] 25)).alloc (Obj.cells #[Value.int IntKind.u64 0, Value.slice none 0 0] 25)).alloc (Obj.cells (Array.replicate N (Value.bool false)) 4)) (.slice A xs.length cap) l N (List.replicate N false) := by
    refine ⟨((Blk.new _ _ _).alloc _).alloc _, ?_, by simp, ?_, (((Ch.refl _ _).alloc _).alloc _).alloc _⟩
    · have := (Blk.new (w.alloc (Obj.cells #[Value.int IntKind.u64 ↑l, Value.slice A xs.length cap] 25)) #[Value.int IntKind.u64 0, Value.slice none 0 0] 25).alloc (Obj.cells (Array.replicate N (Value.bool false)) 4)
      simpa using this
    · have := Blk.new ((w.alloc (Obj.cells #[Value.int IntKind.u64 ↑l, Value.slice A xs.length cap] 25)).alloc (Obj.cells #[Value.int IntKind.u64 0, Value.slice none 0 0] 25)) (Array.replicate N (Value.bool false)) 4
      unfold Row
      simpa using this
  have HA := Lib.hid HA0
  have Hx := Lib.hid hx
  clear hx e401 HA0 hNe
  go_enter Tryd.func6, Tryd.ntmps6
  go_wp2_with fail
  clear hmk
  go_loopw [4] (fun k wr => ∃ (m : Nat) (bs : List Bool), m ≤ xs.length ∧ k = .int .i64 m ∧ BitsInv w wr (.slice A xs.length cap) l (N) bs) (fun k _ => xs.length - (intOf k).toNat)
  case atStart => exact ⟨0, _, Nat.zero_le _, rfl, hI⟩
  case round =>
    obtain ⟨m, bs, hm, rfl, hJ⟩ := hrel
    have k0 : wr.cell? ⟨w.heap.size, 1, none⟩ = some (.slice A xs.length cap) := by rw [hJ.arg.cell]; rfl
    have r0 : wr.cell? ⟨w.heap.size + 1, 0, none⟩ = some (.int .u64 0) := by rw [hJ.res.cell]; rfl
    have r1 : wr.cell? ⟨w.heap.size + 1, 1, none⟩ = some (.slice none 0 0) := by rw [hJ.res.cell]; rfl
    have q0 := hJ.res.free 0
    have q1 := hJ.res.free 1
    by_cases hgo : m < xs.length ∧ m < 1000 ∧ 0 < N
    · obtain ⟨hlt, h1000, hpos⟩ := hgo
      obtain ⟨b', o', _, hA1, hcell⟩ := HA.out m hlt
      have hxm := Hx.out m hlt
      have hcell2 : wr.cell? ⟨b', o' + m, none⟩ = some (.int .u64 (xs[m] : Nat)) := by
        rw [World.cell?_of_block (w := w) (hJ.ch.block b' (World.block_lt_of_cell? w _ hcell) (fun h => h))]; exact hcell
      generalize hy : xs[m] = y at *
      have hyb : (y : Int) % ((N : Nat) : Int) = ((y % (N) : Nat) : Int) := by omega
      have hyl : y % (N) < N := Nat.mod_lt _ hpos
      have cq := hJ.row.cell (y % (N)) (by rw [hJ.len]; exact hyl)
      have fq := Blk.free hJ.row (y % (N))
      have HJ := Lib.hid (hJ.step (y % (N)))
      subst hA1
      have Hyb := Lib.hid hyb
      clear hI hJ hcell hy hxm hyb
      have hix : (0 : Int) ≤ (y : Int) % (N : Int) := Int.emod_nonneg _ (by omega)
      have hix2 : (y : Int) % (N : Int) < (N : Int) := Int.emod_lt_of_pos _ (by omega)
      have hto : ((y : Int) % (N : Int)).toNat = y % N := by rw [Hyb.out]; rfl
      go_wp2
      go_roundw
      case rel => exact ⟨m + 1, _, by omega, by go_num, HJ.out⟩
      case measure => simp [intOf]; omega
    · have hch : Ch S0 w wr := hJ.ch
      have M := Lib.hid (make_any (w.heap.size + 1 + 1) N bs wr hJ.row (by rw [hJ.len]; omega))
      rw [hJ.len] at M
      have HJ := Lib.hid hJ
      have HC := Lib.hid hch
      have e1 : wr.heap.size > w.heap.size + 1 := hJ.res.lt
      clear hJ hch hI
      have hcases : xs.length ≤ m ∨ (m < xs.length ∧ 1000 ≤ m) ∨ (m < xs.length ∧ m < 1000 ∧ N ≤ 0) := by omega
      clear hgo
      rcases hcases with h1 | ⟨h1, h2⟩ | ⟨h1, h2, h3⟩
      all_goals
        go_wp2_with fail
        refine M.out.mono ?_
        rintro e w2 ⟨v2, rfl, hV, hC2⟩
        obtain ⟨A', n', cap', rfl⟩ := hV.shape
        have hr2 := HJ.out.res.keep hC2 (fun h => h)
        have c0 : w2.cell? ⟨w.heap.size + 1, 0, none⟩ = some (.int .u64 0) := by rw [hr2.cell]; rfl
        have c1 : w2.cell? ⟨w.heap.size + 1, 1, none⟩ = some (.slice none 0 0) := by rw [hr2.cell]; rfl
        have f0 := hr2.free 0
        have f1 := hr2.free 1
        have hfin := (hV.set (a := ⟨w.heap.size + 1, 0, none⟩) (by simp; omega) (.int .u64 (N : Nat))).set (a := ⟨w.heap.size + 1, 1, none⟩) (by simp; omega) (.slice A' n' cap')
        have hch3 := ((HC.out.trans hC2).setCell ⟨w.heap.size + 1, 0, none⟩ (by simp; omega) (.int .u64 (N : Nat))).setCell ⟨w.heap.size + 1, 1, none⟩ (by simp; omega) (.slice A' n' cap')
        have HF := Lib.hid (hfin.mono (base' := w.heap.size) (by omega))
        have HCF := Lib.hid hch3
        clear hV hC2 hr2 hfin hch3 r0 r1 q0 q1 k0
        go_wp2
        exact bodyPost_ret (v := .agg #[.int .u64 (N : Nat), .slice A' n' cap']) (by simp [results, Tryd.results6, go_sem, c0, c1, f0, f1]) rfl ⟨_, N, _, rfl, hN, HF.out, HCF.out⟩

end Go.Proofs.YtdkhanfapgnjoaaDoor
