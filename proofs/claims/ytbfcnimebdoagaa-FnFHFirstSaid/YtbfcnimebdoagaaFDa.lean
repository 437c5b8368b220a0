/- WALKS: what a heap tells of its size; the least node goes: its first parts. -/
import Derived.Test.YtbfcnimebdoagaaFB
import Derived.Deep.Cut
import Derived.Deep.CutBlock
import Derived.Deep.RegionHeld3
import Derived.LaidEqlPtr
namespace Go.Proofs.Ytbfcnimebdoagaa
open Go.RowKit
set_option linter.unusedVariables false
set_option linter.unusedSimpArgs false

theorem empty_any (hb n : Nat) (v0 : Value) (w : World) (hB : Blk w hb #[v0, .int .u64 n]) : Calls Try.prog 26 #[.pointer (some ⟨hb, 0, none⟩)] w fun r w' => r = .returned (.bool (decide (n = 0))) ∧ w' = w := by
  have c1 := hB.cell 1
  simp only [List.getElem?_toArray, List.getElem?_cons_zero, List.getElem?_cons_succ] at c1
  by_cases hn : n = 0
  · subst hn
    have c1' : w.cell? ⟨hb, 1, none⟩ = some (.int .u64 0) := c1
    clear c1
    go_enter Try.func26, Try.ntmps26
    go_wp2_with fail
    go_ret
    exact ⟨by simp, rfl⟩
  · have hni : ¬ ((n : Nat) : Int) = 0 := by omega
    have HN : Hid (decide (n = 0) = false) := Lib.hid (by simp [hn])
    go_enter Try.func26, Try.ntmps26
    go_wp2_with fail
    go_ret
    exact ⟨by rw [HN.out]; simp; exact hn, rfl⟩
theorem size_any (hb n : Nat) (v0 : Value) (w : World) (hB : Blk w hb #[v0, .int .u64 n]) : Calls Try.prog 25 #[.pointer (some ⟨hb, 0, none⟩)] w fun r w' => r = .returned (.int .u64 n) ∧ w' = w := by
  have c1 := hB.cell 1
  simp only [List.getElem?_toArray, List.getElem?_cons_zero, List.getElem?_cons_succ] at c1
  go_enter Try.func25, Try.ntmps25
  go_wp2_with fail
  go_ret
  exact ⟨rfl, rfl⟩
theorem undE : Try.prog.underlying 52 = some (.pointer 97) := by kernel_rfl
theorem infoE : ∃ j, Try.prog.info? 97 = some j ∧ j.size ≠ 0 := by
  have h : (Try.prog.info? 97).map (fun i => i.size) = some 7 := by kernel_rfl
  cases e : Try.prog.info? 97 with
  | none => rw [e] at h; cases h
  | some j =>
    rw [e] at h
    refine ⟨j, rfl, fun h0 => ?_⟩
    simp [h0] at h
theorem ptr_eq {w : World} {x y : Nat} {c d : Array Value} (hx : Blk w x c) (hy : Blk w y d) : (binOp .eql 52 (.pointer (some ⟨x, 0, none⟩)) (.pointer (some ⟨y, 0, none⟩))).run Try.prog w = .ok (.bool (decide (x = y))) w := by
  obtain ⟨j, hj, hs⟩ := infoE
  by_cases e : x = y
  · subst e
    rw [run_eql_ptr_same w _ undE hj]; simp
  · obtain ⟨T, hx⟩ := hx
    obtain ⟨U, hy⟩ := hy
    rw [run_eql_ptr_other (a := ⟨x, 0, none⟩) (b := ⟨y, 0, none⟩) w undE hj hs (fun h => e (by cases h; rfl)) hx hy]
    simp [e]
theorem ptr_ne {w : World} {x y : Nat} {c d : Array Value} (hx : Blk w x c) (hy : Blk w y d) : (binOp .neq 52 (.pointer (some ⟨x, 0, none⟩)) (.pointer (some ⟨y, 0, none⟩))).run Try.prog w = .ok (.bool (!decide (x = y))) w := by
  obtain ⟨j, hj, hs⟩ := infoE
  have h : ∀ d : Nat, (Op.equalIn (d + 1) 52 (.pointer (some ⟨x, 0, none⟩)) (.pointer (some ⟨y, 0, none⟩))).run Try.prog w = .ok (decide (x = y)) w := fun d => by
    by_cases e : x = y
    · subst e
      simp [Op.equalIn, run_underlying undE, sizeOf, typeInfo, hj, run_sameAddr_same]
    · obtain ⟨T, hx⟩ := hx
      obtain ⟨U, hy⟩ := hy
      simp [Op.equalIn, run_underlying undE, sizeOf, typeInfo, hj, hs, run_sameAddr_other (a := ⟨x, 0, none⟩) (b := ⟨y, 0, none⟩) w (fun h => e (by cases h; rfl)) hx hy, e]
  simp only [binOp]
  simp [Op.equal, Op.maxDepth, h 9999]
theorem FHp.min {w : World} {hb : Nat} {N : List Nat} {s : FS} {G : Option Nat → List Nat} {h : Nat → Nat} {m : Nat} (f : FHp w hb N s G h (some m)) : m ∈ N ∧ m ∈ G none ∧ s.nx m ∈ N ∧ s.pv m ∈ N ∧ hb ≠ m ∧ 0 < N.length := by
  obtain ⟨h1, _⟩ := f.hp.least m rfl
  have hm := f.hp.wf.rings.mem h1
  exact ⟨hm, h1, f.hp.wf.rings.nextN hm, f.hp.wf.rings.prevN hm, fun e => f.out (e ▸ hm), List.length_pos_of_mem hm⟩
theorem Mem.congr {w : World} {N : List Nat} {s s' : FS} (h : Mem w N s) (he : ∀ a ∈ N, cells s' a = cells s a) : Mem w N s' := fun a ha => by rw [he a ha]; exact h a ha
/-- The nodes of u without parents. -/
def parSt (s : FS) (u : List Nat) : FS := { s with par := fun x => if x ∈ u then none else s.par x }
theorem par_nil (s : FS) : parSt s [] = s := by unfold parSt; simp
theorem Mem.parNext {w : World} {N : List Nat} {s : FS} {u : List Nat} (h : Mem w N (parSt s u)) (x : Nat) : Mem (w.setCell ⟨x, 5, none⟩ (.pointer none)) N (parSt s (u ++ [x])) := by
  refine (h.set5 x none).congr fun a ha => ?_
  have e : (parSt s (u ++ [x])).par a = upd (parSt s u).par x none a := by
    show (if a ∈ u ++ [x] then none else s.par a) = if a = x then none else (if a ∈ u then none else s.par a)
    by_cases h1 : a = x
    · subst h1; simp
    · simp [h1]
  exact cells_ext rfl rfl rfl rfl rfl e rfl
theorem Mem.parDone {w : World} {N : List Nat} {s : FS} {G : Option Nat → List Nat} {h : Nat → Nat} (f : WF N s G h) {m : Nat} {L : List Nat} (hp : L.Perm (G (some m))) (hM : Mem w N (parSt (ust s m) L)) : Mem w N (deqSt s m) := by
  refine hM.congr fun a ha => cells_ext rfl rfl rfl rfl rfl ?_ rfl
  show (if s.par a = some m then none else s.par a) = if a ∈ L then none else s.par a
  have : a ∈ L ↔ s.par a = some m := by rw [hp.mem_iff, f.rings.g]; simp [ha]
  by_cases e : s.par a = some m
  · rw [if_pos e, if_pos (this.2 e)]
  · rw [if_neg e, if_neg (fun h => e (this.1 h))]
theorem path_next {nx : Nat → Nat} {b x : Nat} {v : List Nat} : ∀ {a : Nat} {t u : List Nat}, Path nx a t b → a :: t = u ++ x :: v → nx x = (v ++ [b]).headD 0 := by
  intro a t
  induction t generalizing a with
  | nil =>
    intro u p e
    cases u with
    | nil => simp at e; obtain ⟨rfl, rfl⟩ := e; exact p
    | cons d u => simp at e
  | cons d t ih =>
    intro u p e
    cases u with
    | nil => simp at e; obtain ⟨rfl, rfl⟩ := e; exact p.1
    | cons d' u => simp at e; exact ih p.2 (by simpa using e.2)
theorem head_first {c x : Nat} {t u v : List Nat} (h : (c :: t).Nodup) (e : c :: t = u ++ x :: v) : (!decide ((v ++ [c]).headD 0 = c)) = !v.isEmpty := by
  cases v with
  | nil => simp
  | cons y v =>
    have hyc : y ≠ c := by
      intro e2
      subst e2
      cases u with
      | nil => simp at e; obtain ⟨rfl, rfl⟩ := e; simp at h
      | cons d u => simp at e; obtain ⟨rfl, rfl⟩ := e; simp at h
    simp [hyc]
/-- How far it is to the end of L. -/
def toGo (L : List Nat) (vc vo : Value) : Nat :=
  match vo, vc with
  | .bool true, .pointer (some a) => L.length - L.idxOf a.block
  | _, _ => 0
theorem idx_mid {u v : List Nat} {x : Nat} (h : (u ++ x :: v).Nodup) : (u ++ x :: v).idxOf x = u.length := by
  have : x ∉ u := fun hx => (List.nodup_append.1 h).2.2 x hx x (by simp) rfl
  rw [List.idxOf_append, if_neg this, List.idxOf_cons_self, Nat.zero_add]
/-- What stands behind the first parts. -/
def Dq1 (w : World) (hb : Nat) (N : List Nat) (s : FS) (m : Nat) (o : Option Nat) (wx : World) : Prop := Blk wx hb #[op o, .int .u64 ((N.length - 1 : Nat) : Int)] ∧ Mem wx N s ∧ Ch (SH hb N) w wx

theorem Dq1.store {w wc wy : World} {hb n : Nat} {N : List Nat} {s : FS} {m : Nat} {v : Value} (o : Option Nat) (hB : Blk wy hb #[v, .int .u64 n]) (hM : Mem wy N s) (hC : Ch (SN N) wc.drew wy) (hw : Ch (SH hb N) w wc) (hN : N.length = n + 1) (ho : hb ∉ N) : Dq1 w hb N s m o (wy.setCell ⟨hb, 0, none⟩ (op o)) := by
  have b := hB.set 0 (op o)
  simp only [List.setIfInBounds_toArray, List.set_cons_zero] at b
  refine ⟨by rw [hN]; exact b, hM.keep ((Ch.refl (S1 hb) _).setCell ⟨hb, 0, none⟩ (fun _ => rfl) (op o)) (fun a ha e => ho (e ▸ ha)), ?_⟩
  exact Ch.setCell (p := ⟨hb, 0, none⟩) (hw.trans (((Ch.refl _ wc).drew).trans (hC.mono (fun k _ hk => Or.inr hk)))) (fun _ => Or.inl rfl) _
theorem deq_none {w : World} {hb : Nat} {N : List Nat} {s : FS} {G : Option Nat → List Nat} {h : Nat → Nat} {m : Nat} (f : FHp w hb N s G h (some m)) (e : mres (deqSt s m) (deqMn s m) (s.ch m) = none) : (G none).erase m ++ G (some m) = [] := by
  obtain ⟨hm, hmr, hnx, hpv, _, _⟩ := f.min
  have h1 : deqMn s m = none ∧ s.ch m = none := by
    cases e1 : deqMn s m with
    | none => rw [e1] at e; exact ⟨rfl, e⟩
    | some a =>
      rw [e1] at e
      cases e2 : s.ch m with
      | none => rw [e2] at e; cases e
      | some b =>
        rw [e2] at e
        unfold mres at e
        simp only at e
        split at e <;> cases e
  rw [(deq_roots f.hp.wf hmr).1 h1.1, f.hp.wf.ch0 m hm h1.2]; rfl
theorem deq_some {w : World} {hb : Nat} {N : List Nat} {s : FS} {G : Option Nat → List Nat} {h : Nat → Nat} {m y : Nat} (f : FHp w hb N s G h (some m)) (e : mres (deqSt s m) (deqMn s m) (s.ch m) = some y) : y ∈ (G none).erase m ++ G (some m) := by
  obtain ⟨hm, hmr, hnx, hpv, _, _⟩ := f.min
  have hr := (deq_roots f.hp.wf hmr).2
  have hc : ∀ a, s.ch m = some a → a ∈ G (some m) := fun a e => f.hp.wf.ch1 m hm a e
  rw [List.mem_append]
  cases e1 : deqMn s m with
  | none => rw [e1] at e; exact Or.inr (hc y e)
  | some a =>
    rw [e1] at e
    cases e2 : s.ch m with
    | none => rw [e2] at e; cases e; exact Or.inl (hr y e1)
    | some b =>
      rw [e2] at e
      unfold mres at e
      simp only at e
      split at e
      · cases e; exact Or.inl (hr y e1)
      · cases e; exact Or.inr (hc y e2)
/-- What DequeueMin leaves. -/
def DeqR (w : World) (hb : Nat) (N : List Nat) (s : FS) (m : Nat) (w' : World) : Prop := ∃ s' G' h' mn', FHp w' hb (N.erase m) s' G' h' mn' ∧ (∀ a ∈ N, s'.pr a = s.pr a) ∧ Mem w' N s' ∧ (∀ a ∈ N, s.mr a = false → s'.mr a = false)
theorem deq_last {w wc : World} {hb : Nat} {N : List Nat} {s : FS} {G : Option Nat → List Nat} {h : Nat → Nat} {m : Nat} (f : FHp w hb N s G h (some m)) (e : mres (deqSt s m) (deqMn s m) (s.ch m) = none) (hD : Dq1 w hb N (mst (deqSt s m) (deqMn s m) (s.ch m)) m none wc) : DeqR w hb N s m wc := by
  obtain ⟨hm, hmr, _, _, _, hl⟩ := f.min
  have wf := f.hp.wf.deq hmr
  have hN := wf.none_of (by rw [ups_at]; exact deq_none f e)
  obtain ⟨h1, h2, h3⟩ := hD
  refine ⟨_, _, _, none, ⟨by rw [List.length_erase_of_mem hm]; exact h1, fun a ha => h2 a (List.mem_of_mem_erase ha), fun a ha => (by rw [hN] at ha; cases ha), ⟨wf, fun _ => hN, fun m e => (by cases e)⟩, fun h => f.out (List.mem_of_mem_erase h), by have := f.few; rw [List.length_erase_of_mem hm]; omega⟩, fun a ha => by rw [mst_pr]; rfl, h2, fun a ha e => by rw [mst_mr]; exact e⟩
theorem mk_ptrs (n : Nat) (hn : n ≤ 100000) (w : World) : (Instr.makeSlice 59 (.int .i64 0) (.int .u64 (n : Int))).run Try.prog w = .ok (.slice (some ⟨w.heap.size, 0, none⟩) 0 n) (w.alloc (.cells (Array.replicate n (.pointer none)) 52)) :=
  make_one (bytes := 8) (z := .pointer none) Try.underlying59 (by kernel_rfl) rfl .i64 .u64 0 n (Nat.zero_le _) (by omega) (by omega) w
theorem elP : EL Try.prog 59 52 1 8 := EL.of (z := .pointer none) Try.underlying59 (by kernel_rfl) rfl (by decide)
/-- Nodes as a row of pointers. -/
def pvs (l : List Nat) : List Value := l.map fun a => .pointer (some ⟨a, 0, none⟩)
def ovs (l : List (Option Nat)) : List Value := l.map op
theorem made0 (w : World) (n : Nat) (hn : n ≤ 100000) : (w.alloc (.cells (Array.replicate n (.pointer none)) 52)).ownsRow w.heap.size 52 1 (.slice (some ⟨w.heap.size, 0, none⟩) 0 n) 0 [] :=
  World.ownsRow_made w (e := 52) (size := 1) (base := w.heap.size) (Array.replicate n (.pointer none)) n (by omega) (by unfold maxLen; omega) (by simp)
theorem own_apart {wc w1 wr : World} {N : List Nat} {s : FS} {E sz n : Nat} {v : Value} {xs : List Value} (hO : wr.ownsRow w1.heap.size E sz v n xs) (hM : Mem wc N s) (hs : wc.heap.size ≤ w1.heap.size) : ∀ a ∈ N, ¬ v.ownBlock = some a := fun a ha e => by
  have h1 := (own_lt hO a e).1
  have h2 := hM.lt ha
  omega
theorem take_next {L : List Nat} {i : Nat} (h : i < L.length) (y : Nat) : L.take (i + 1) = L.take i ++ [(L ++ [y]).getD i 0] ∧ L = L.take i ++ (L ++ [y]).getD i 0 :: L.drop (i + 1) := by
  have e : (L ++ [y]).getD i 0 = L[i] := by rw [List.getD_eq_getElem?_getD, List.getElem?_append_left h, List.getElem?_eq_getElem h]; rfl
  rw [e]
  constructor
  · rw [List.take_add_one, List.getElem?_eq_getElem h]; rfl
  · rw [List.getElem_cons_drop, List.take_append_drop]
theorem drop_head {L : List Nat} {i : Nat} (h : i < L.length) (y : Nat) : (L.drop (i + 1) ++ [y]).headD 0 = (L ++ [y]).getD (i + 1) 0 := by
  rw [List.getD_eq_getElem?_getD]
  rcases Nat.lt_or_ge (i + 1) L.length with h1 | h1
  · rw [List.getElem?_append_left h1, List.drop_eq_getElem_cons h1, List.getElem?_eq_getElem h1]; rfl
  · rw [List.drop_eq_nil_of_le h1, List.getElem?_append_right h1, show i + 1 - L.length = 0 by omega]; rfl
/-- How long a slice is. -/
def lenOf (v : Value) : Nat := match v with | .slice _ l _ => l | _ => 0
theorem pvs_snoc (l : List Nat) (x : Nat) : pvs (l ++ [x]) = pvs l ++ [.pointer (some ⟨x, 0, none⟩)] := by simp [pvs]
theorem deq_merge {w wx : World} {hb : Nat} {N : List Nat} {s : FS} {G : Option Nat → List Nat} {h : Nat → Nat} {m : Nat} (f : FHp w hb N s G h (some m)) (hM : Mem wx N (deqSt s m)) :
    Calls Try.prog 50 #[op (deqMn s m), op (s.ch m)] wx fun r w' => r = .returned (op (mres (deqSt s m) (deqMn s m) (s.ch m))) ∧ Mem w' N (mst (deqSt s m) (deqMn s m) (s.ch m)) ∧ Ch (SN N) wx w' := by
  obtain ⟨hm, hmr, hnx, hpv, _, _⟩ := f.min
  have wf := f.hp.wf
  have hn : ∀ a ∈ N, (deqSt s m).nx a ∈ N := fun a ha => by
    show upd s.nx (s.pv m) (s.nx m) a ∈ N
    by_cases e : a = s.pv m
    · subst e; rw [upd_at]; exact hnx
    · rw [upd_ne _ _ e]; exact wf.rings.nextN ha
  have hr := (deq_roots wf hmr).2
  have hg : ∀ a, deqMn s m = some a → a ∈ G none := fun a e => List.mem_of_mem_erase (hr a e)
  have hc : ∀ a, s.ch m = some a → a ∈ G (some m) := fun a e => wf.ch1 m hm a e
  refine merge_any N (deqSt s m) _ _ wx hM f.sm (fun a e => ?_) (fun a e => ?_) (fun a b e e2 e3 => ?_)
  · have := wf.rings.mem (hg a e); exact ⟨this, hn a this⟩
  · have := wf.rings.mem (hc a e); exact ⟨this, hn a this⟩
  · have h1 := ((wf.rings.g _ _).1 (hg a e)).2
    have h2 := ((wf.rings.g _ _).1 (hc b e2)).2
    rw [e3, h2] at h1
    cases h1
end Go.Proofs.Ytbfcnimebdoagaa
