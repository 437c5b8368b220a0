/- WALKS: the small functions, New. -/
import Derived.Test.YtdkhanfapgnjoaaDoorM
namespace Go.Proofs.YtdkhanfapgnjoaaDoor
open Go.RowKit
set_option linter.unusedVariables false
set_option linter.unusedSimpArgs false

set_option maxHeartbeats 400000 in
theorem cap_any (w : World) : Calls Tryd.prog 33 #[] w fun e w' => e = .returned (.int .u64 18446744073709551615) ∧ w = w' := by
  go_enter Tryd.func33, Tryd.ntmps33
  go_wp2
  go_ret
  exact ⟨rfl, rfl⟩

theorem int_eq {k : IntKind} {a b : Int} (h : a = b) : Ending.returned (.int k a) = .returned (.int k b) := by rw [h]

set_option maxHeartbeats 400000 in
theorem wordsNeeded_any (n : Nat) (i : Int) (hn : i = n) (h : n ≤ 1000000) (w : World) : Calls Tryd.prog 32 #[.int .u64 i] w fun e w' => e = .returned (.int .i64 (nw n : Nat)) ∧ w = w' := by
  subst hn
  go_enter Tryd.func32, Tryd.ntmps32
  go_wp2_with (go_at_call 33; refine (cap_any _).mono ?_; rintro e w' ⟨rfl, rfl⟩)
  go_ret
  exact ⟨int_eq (by unfold nw; omega), rfl⟩

set_option maxHeartbeats 400000 in
theorem wordsIndex_any (i : Nat) (x : Int) (hx : x = i) (h : i ≤ 1000000) (w : World) : Calls Tryd.prog 23 #[.int .u64 x] w fun e w' => e = .returned (.int .u64 (i % 64 : Nat)) ∧ w = w' := by
  subst hx
  go_enter Tryd.func23, Tryd.ntmps23
  go_wp2
  go_ret
  exact ⟨int_eq (by rw [show (63 : Int) = ((63 : Nat) : Int) from rfl, u64_and_nat _ _ (by omega) (by omega), nat_mask6]), rfl⟩

theorem Tryd.info48 : (Tryd.prog.info? 48).map (fun i => (i.zero, i.size, i.bytes)) = some (some (.int .u64 0), 1, 8) := by kernel_rfl

theorem cells_u64 (n : Nat) : madeCells (Value.int .u64 0).cells n = Array.replicate n (.int .u64 0) := by
  apply Array.ext
  · simp [madeCells]
  · intro i h1 h2
    simp [madeCells, Value.cells, Nat.mod_one]

/-- make([]uint64, n, c) -/
theorem make74 (n c : Nat) (hn : n ≤ c) (hc : c ≤ 1000000) (w : World) :
    (Instr.makeSlice 44 (.int .i64 (n : Int)) (.int .i64 (c : Int))).run Tryd.prog w = .ok (.slice (some ⟨w.heap.size, 0, none⟩) n c) (w.alloc (.cells (Array.replicate c (.int .u64 0)) 48)) := by
  obtain ⟨i0, hi, hz0, hz1, hz2⟩ := info_parts Tryd.info48
  have := run_make (P := Tryd.prog) w 44 48 i0 (.int .u64 0) Tryd.underlying44 hi hz0 .i64 .i64 n c (by omega) (by omega) (by rw [hz2]; omega) (by omega)
  rw [this, hz1, Nat.mul_one, cells_u64]
  simp

theorem one38 : (Tryd.prog.info? 48).map (·.size) = some 1 := by kernel_rfl

/-- copy(dst, src) of []uint64: the first k numbers of block sb go into block g. -/
theorem copy74 (W : World) (g sb : Nat) (cur C : Array Value) (hg : Blk W g cur) (hs : Blk W sb C) (dl dc sl sc k : Nat) (hk : k = Nat.min sl dl)
    (hx : ∀ j, j < k → ∃ x : Int, C[j]? = some (.int .u64 x)) (hfit : k ≤ cur.size) :
    ∃ W2, (∀ ty, (Builtin.copy_ #[44, 44] ty #[.slice (some ⟨g, 0, none⟩) dl dc, .slice (some ⟨sb, 0, none⟩) sl sc]).run Tryd.prog W = .ok (goInt k) W2) ∧
      (∃ cur', Blk W2 g cur' ∧ cur'.size = cur.size ∧ (∀ j, j < k → cur'[j]? = C[j]?) ∧ (∀ j, k ≤ j → cur'[j]? = cur[j]?)) ∧ Ch (S1 g) W W2 := by
  obtain ⟨T, hgT⟩ := hg
  have hkC : k ≤ C.size := by
    by_cases h0 : k = 0
    · omega
    · obtain ⟨x, hx⟩ := hx (k - 1) (by omega)
      have := (Array.getElem?_eq_some_iff.1 hx).1
      omega
  have hlen : (C.toList.take k).length = k := by simp; omega
  have hr := run_copy_row Tryd.prog W 44 44
  refine ⟨W.setRow g (C.toList.take k ++ cur.toList.drop k).toArray, fun ty => ?_, ⟨_, Blk.row ⟨T, hgT⟩ _, by simp; omega, fun j hj => ?_, fun j hj => ?_⟩, (Ch.refl (S1 g) W).setRow g (fun _ => rfl) _⟩
  · have := hr ty 48 g 0 dl dc ⟨sb, 0, none⟩ sl sc cur T (C.toList.take k) Tryd.underlying44 one38 hgT (by rw [hlen, hk])
      (fun j v hv => by
        rw [show ((⟨sb, 0, none⟩ : Addr).add j) = ⟨sb, j, none⟩ from by simp [Addr.add, eq_comm], hs.cell]
        rw [List.getElem?_take] at hv
        split at hv
        · simpa using hv
        · simp at hv) (by rw [hlen]; omega) (fun v hv => by
        obtain ⟨j, hj, rfl⟩ := List.getElem_of_mem hv
        simp only [hlen] at hj
        obtain ⟨x, hx⟩ := hx j hj
        have hjC : j < C.size := by omega
        rw [Array.getElem?_eq_getElem hjC] at hx
        have hx' := Option.some.inj hx
        simp only [List.getElem_take, Array.getElem_toList, hx']
        rfl)
    rw [this, hlen]
    simp
  · simp [List.getElem?_append, hlen, hj, List.getElem?_take, show j < C.size by omega]
  · simp [List.getElem?_append, hlen, show ¬ j < k by omega]
    congr 1
    omega

theorem catch_idle (p : Addr) (w : World) :
    CallsD Tryd.prog 31 #[.pointer (some p)] .returning w fun e u' w' => e = .returned (.tuple #[]) ∧ u' = .returning ∧ w = w' := by
  refine callsD_of_wpS Tryd.func31 rfl fun c₀ cs hu => ?_
  apply wpS_seq
  apply wpS_region
  simp [wpOpsS, go_sem, recoverD, hu, Tryd.ntmps31, Exit.thenS]
  apply wpS_seq
  apply wpS_region
  simp [wpOpsS, go_sem, Exit.thenS]
  refine wpS_cond (t := false) (by simp [Act.eval, Array.replicate]) ?_
  simp only [Bool.false_eq_true, if_false]
  refine wpS_of_wp (wp_skip ?_)
  cases c₀
  simp_all [bodyPostS, results, Tryd.results31]

set_option maxHeartbeats 400000 in
theorem new_any (L : Nat) (h : L ≤ 1000000) (w : World) : Calls Tryd.prog 21 #[.int .u64 L] w fun e w' => ∃ b sb, e = .returned (.pointer (some ⟨b, 0, none⟩)) ∧ BS w' b sb L (fun _ => false) ∧ w.heap.size ≤ b ∧ w.heap.size ≤ sb ∧ Ch S0 w w' := by
  have hmf : ∀ (fn : Fn) (first cap : Array Value) (w : World), (Instr.makeFunc fn first cap).run Tryd.prog w = .ok (.func fn first cap) w := fun _ _ _ _ => rfl
  have hmk := make74 (nw L) (nw L) (Nat.le_refl _) (by unfold nw; omega)
  go_enter_defers Tryd.func21, Tryd.ntmps21
  go_wp2_with (go_at_call 32; refine (wordsNeeded_any L _ rfl h _).mono ?_; rintro e w' ⟨rfl, rfl⟩)
  refine leaves_cons (f := 31) (args := #[.pointer (some ⟨w.heap.size, 0, none⟩)]) (by simp) (by simp [go_sem]) ?_
  refine (catch_idle ⟨w.heap.size, 0, none⟩ _).mono ?_
  rintro e u' w'' ⟨rfl, rfl, rfl⟩
  simp only [Leaves, settle, results, Tryd.results21]
  refine ⟨_, by simp [go_sem], w.heap.size + 1 + 1, w.heap.size + 1, rfl, ?_, by omega, by omega, (((Ch.refl _ _).alloc _).alloc _).alloc _⟩
  refine ⟨by omega, fun _ _ => rfl, nw L, Array.replicate (nw L) (.int .u64 0), ?_, ?_, by simp, by omega, by unfold nw; omega, ?_⟩
  · have := Blk.new (((w.alloc (Obj.cells #[Value.pointer (some { block := w.heap.size + 1 + 1, off := 0 })] 35)).alloc (Obj.cells (Array.replicate (nw L) (Value.int IntKind.u64 0)) 48))) #[.int .u64 L, .slice (some ⟨w.heap.size + 1, 0, none⟩) (nw L) (nw L)] 46
    simpa using this
  · have := Blk.new (w.alloc (Obj.cells #[Value.pointer (some { block := w.heap.size + 1 + 1, off := 0 })] 35)) (Array.replicate (nw L) (Value.int IntKind.u64 0)) 48
    simpa using this.alloc _
  · intro i hi
    rw [Bit.wd_zero (fun _ _ => rfl)]
    simp [hi]

end Go.Proofs.YtdkhanfapgnjoaaDoor
