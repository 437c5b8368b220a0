/- WALKS: FIRun: the walk. -/
import Derived.Test.YtjliofloheellaaG
namespace Go.Proofs.Ytjliofloheellaa
open Go.RowKit
set_option linter.unusedVariables false
set_option linter.unusedSimpArgs false

theorem sts_succ {xs : List Stp} {s : FS} {i : Nat} {x : Stp} (h : xs[i]? = some x) : sts xs s (i + 1) = next (sts xs s i) x := by simp [sts, h]
theorem says_succ {xs : List Stp} {s : FS} {i : Nat} {x : Stp} (h : xs[i]? = some x) : says xs s (i + 1) = says xs s i ++ [said (sts xs s i) x] := by simp [says, h]

theorem says_len (xs : List Stp) (s : FS) : ∀ i, (says xs s i).length ≤ i
  | 0 => Nat.le_refl _
  | i + 1 => by
    have := says_len xs s i
    unfold says
    split <;> simp <;> omega
theorem next_set (s : FS) (k v : Nat) : next s ⟨1, k, v⟩ = (upd s.1 k v, s.2 + 1) := rfl
theorem next_get (s : FS) (k v : Nat) : next s ⟨2, k, v⟩ = s := rfl
theorem next_has (s : FS) (k v : Nat) : next s ⟨3, k, v⟩ = s := rfl
theorem next_len (s : FS) (k v : Nat) : next s ⟨5, k, v⟩ = s := rfl
theorem said_set (s : FS) (k v : Nat) : said s ⟨1, k, v⟩ = (0, false) := rfl
theorem said_get (s : FS) (k v : Nat) : said s ⟨2, k, v⟩ = ((s.1 k).getD 0, (s.1 k).isSome) := rfl
theorem said_has (s : FS) (k v : Nat) : said s ⟨3, k, v⟩ = (0, (s.1 k).isSome) := rfl
theorem said_len (s : FS) (k v : Nat) : said s ⟨5, k, v⟩ = (s.2, false) := rfl

set_option maxRecDepth 100000 in
set_option maxHeartbeats 8000000 in
theorem run_any (h n cap : Nat) (A : Option Addr) (xs : List Stp) (w : World) (hh : h < 601) (hn : xs.length = n) (hn1 : n ≤ 1000) (hA : Steps w A xs) (hf : Fine xs (fun _ => none, 0)) :
    Calls Try.prog 4 #[.int .u64 h, .slice A n cap] w fun r w' => (∃ v, r = .returned v ∧ w'.ownsRow w.heap.size 30 2 v (says xs (fun _ => none, 0) n).length (ansCells (says xs (fun _ => none, 0) n))) ∧ Ch S0 w w' := by
  have HA := Lib.hid hA
  have HFi := Lib.hid hf
  have HN := Lib.hid hn
  clear hA hf hn
  go_enter Try.func4, Try.ntmps4
  go_wp2_with fail
  refine (new_any h hh _).mono ?_
  rintro r w1 ⟨⟨fb, tb, e, rfl, hF, he⟩, hC⟩
  have hI : RunI w w1 fb (fun _ => none, 0) (.slice none 0 0) [] := ⟨⟨tb, e, _, hF, he, fun b _ h => by cases h⟩, World.ownsRow_nil _ _ _ _, hC⟩
  have HI := Lib.hid hI
  clear hF hC hI he
  go_wp2_with fail
  go_loopw [6, 14] (fun vo vi wr => ∃ i : Nat, i ≤ n ∧ vi = .int .i64 i ∧ RunI w wr fb (sts xs (fun _ => none, 0) i) vo (says xs (fun _ => none, 0) i)) (fun _ vi _ => n - (intOf vi).toNat)
  case atStart => exact ⟨0, by omega, rfl, HI.out⟩
  case round =>
    obtain ⟨i, hi, rfl, hJ⟩ := hrel
    have HJ := Lib.hid hJ
    clear hJ
    by_cases hlt : i < n
    · have hlti : (i : Int) < (n : Nat) := by omega
      obtain ⟨x, hx⟩ : ∃ x, xs[i]? = some x := ⟨xs[i]'(by have := HN.out; omega), by simp [HN.out, hlt]⟩
      obtain ⟨q, o, hAe, c0, c1, c2⟩ := (HA.out.keep HJ.out.ch) i x hx
      subst hAe
      have hql := World.block_lt_of_cell? wr _ c0
      obtain ⟨hop, hfr, hct⟩ := HFi.out i x hx
      obtain ⟨op, k, v⟩ := x
      simp only at hop hfr hct c0 c1 c2
      obtain ⟨s, hs⟩ : ∃ s, sts xs (fun _ => none, 0) i = s := ⟨_, rfl⟩
      obtain ⟨ys, hys⟩ : ∃ ys, says xs (fun _ => none, 0) i = ys := ⟨_, rfl⟩
      have hyl : ys.length ≤ 1000 := by have := says_len xs (fun _ => none, 0) i; rw [hys] at this; omega
      have e1 := sts_succ (s := (fun _ => none, 0)) hx
      have e2 := says_succ (s := (fun _ => none, 0)) hx
      rw [hs] at hfr hct e1 e2 HJ
      rw [hys] at e2 HJ
      have E1 := Lib.hid e1
      have E2 := Lib.hid e2
      have HFr := Lib.hid hfr
      have HCt := Lib.hid hct
      clear hx hfr hct e1 e2 hs hys
      simp only [List.mem_cons, List.not_mem_nil, or_false] at hop
      rcases hop with rfl | rfl | rfl | rfl
      · have c0 : wr.cell? ⟨q, o + i * 3, none⟩ = some (.int .i64 1) := c0
        have HW0 : Hid (Ch S0 wr ((wr.alloc (Obj.cells #[.int .i64 1, .int .u64 (k : Nat), .int .u64 (v : Nat)] 26)).alloc (Obj.cells #[.int .u64 0, .bool false] 30))) := Lib.hid (((Ch.refl _ _).alloc _).alloc _)
        obtain ⟨⟨tb1, et, T1, hF1, he1, hd1⟩, hO1, hCh1⟩ := HJ.out
        have HD1 := Lib.hid hd1
        have hsz1 := hCh1.size
        have HSet := Lib.hid (fiSet_any fb tb1 et s.2 k v T1 s.1 _ (hF1.keep HW0.out) he1 HCt.out (Nat.le_trans hsz1 HW0.out.size) (HFr.out rfl))
        have hsb : Blk ((wr.alloc (Obj.cells #[.int .i64 1, .int .u64 (k : Nat), .int .u64 (v : Nat)] 26)).alloc (Obj.cells #[.int .u64 0, .bool false] 30)) (wr.heap.size + 1) #[.int .u64 0, .bool false] := by have := Blk.new (wr.alloc (Obj.cells #[.int .i64 1, .int .u64 (k : Nat), .int .u64 (v : Nat)] 26)) #[.int .u64 0, .bool false] 30; simpa using this
        have HSb := Lib.hid hsb
        have HFl := Lib.hid hF1.blk.lt
        have HTl := Lib.hid hF1.arr.lt
        have HO1 := Lib.hid hO1
        have HC1 := Lib.hid hCh1
        have hlow1 := hF1.low
        clear hF1 he1 hd1 hO1 hCh1 hsb
        go_wp2_with fail
        refine HSet.out.mono ?_
        rintro r w2 ⟨rfl, ⟨tb2, e2, T2, hF2, he2, hin2⟩, hC2⟩
        have hfb := HFl.out
        have htb := HTl.out
        have hb2 := HSb.out.keep hC2 (fun hs => by rcases hs with hs | hs <;> omega)
        have y0 := hb2.cell 0
        have y1 := hb2.cell 1
        simp only [List.getElem?_toArray, List.getElem?_cons_zero, List.getElem?_cons_succ] at y0 y1
        have hJ2 : RunI w w2 fb (upd s.1 k v, s.2 + 1) u6 ys := by
          have ho := own_keepS HO1.out HW0.out (fun _ _ h => h)
          have hcw : Ch S0 w w2 := (HC1.out.trans HW0.out).trans' hC2 (fun j hj hs => by rcases hs with rfl | rfl <;> omega)
          refine ⟨⟨tb2, e2, T2, hF2, he2, fun b hI hb => ?_⟩, own_keepS ho hC2 (fun g hg hs => HD1.out g (hs.elim (fun h => Or.inl h) (fun h => Or.inr (Or.inl h))) hg), hcw⟩
          have hbl := own_lt HO1.out b hb
          have hwl := HW0.out.size
          rcases hI with h | h
          · exact HD1.out b (Or.inl h) hb
          · exact HD1.out b (Or.inr (hin2 b (by omega) h)) hb
        have HJ2 := Lib.hid hJ2
        have hO2 := hJ2.own
        have hsz2 := hJ2.ch.size
        clear hJ2 hF2 he2 hin2 hC2 hb2 HJ
        go_wp2_with (at_builtin; go_loud (refine app30 rfl _ _ rfl w.heap.size ys.length u6 _ rfl hO2 (.int .u64 0) (.bool false) rfl rfl w2.heap.size rfl rfl (by omega) hsz2 ?_); intro v' w3 hown3 hgr3 hb3; have HG := Lib.hid (HJ2.out.grow (y := (0, false)) hown3 hgr3 hb3); clear hown3 hgr3 hb3)
        go_roundw
        case rel => exact ⟨i + 1, by omega, by go_num, by rw [E1.out, E2.out, next_set, said_set]; exact HG.out⟩
        case measure => simp [intOf]; omega
      · have c0 : wr.cell? ⟨q, o + i * 3, none⟩ = some (.int .i64 2) := c0
        have HW0 : Hid (Ch S0 wr ((wr.alloc (Obj.cells #[.int .i64 2, .int .u64 (k : Nat), .int .u64 (v : Nat)] 26)).alloc (Obj.cells #[.int .u64 0, .bool false] 30))) := Lib.hid (((Ch.refl _ _).alloc _).alloc _)
        obtain ⟨⟨tb1, et, T1, hF1, he1, hd1⟩, hO1, hCh1⟩ := HJ.out
        have HD1 := Lib.hid hd1
        have hsz1 := hCh1.size
        have hcall := fiGet_any fb tb1 et s.2 k T1 s.1 _ (hF1.keep HW0.out)
        obtain ⟨gv, hgv⟩ : ∃ gv, (s.1 k).getD 0 = gv := ⟨_, rfl⟩
        obtain ⟨gb, hgb⟩ : ∃ gb, (s.1 k).isSome = gb := ⟨_, rfl⟩
        rw [hgv, hgb] at hcall
        have HCall := Lib.hid hcall
        have HGV := Lib.hid hgv
        have HGB := Lib.hid hgb
        clear hcall hgv hgb
        have HJq : Hid (RunI w ((wr.alloc (Obj.cells #[.int .i64 2, .int .u64 (k : Nat), .int .u64 (v : Nat)] 26)).alloc (Obj.cells #[.int .u64 (gv : Nat), .bool gb] 30)) fb s u6 ys) := Lib.hid (HJ.out.keep (((Ch.refl _ _).alloc _).alloc _))
        have hOq := HJq.out.own
        have hszq : w.heap.size ≤ ((wr.alloc (Obj.cells #[.int .i64 2, .int .u64 (k : Nat), .int .u64 (v : Nat)] 26)).alloc (Obj.cells #[.int .u64 (gv : Nat), .bool gb] 30)).heap.size := HJq.out.ch.size
        clear hF1 he1 hd1 hO1 hCh1 HJ HD1
        go_wp2_with fail
        refine HCall.out.mono ?_
        rintro r w2 ⟨rfl, rfl⟩
        go_wp2_with (at_builtin; go_loud (refine app30 rfl _ _ rfl w.heap.size ys.length u6 _ rfl hOq (.int .u64 (gv : Nat)) (.bool gb) rfl rfl (wr.heap.size + 1 + 1) (by simp) rfl (by omega) hszq ?_); intro v' w3 hown3 hgr3 hb3; have HG := Lib.hid (HJq.out.grow (y := (gv, gb)) hown3 hgr3 hb3); clear hown3 hgr3 hb3)
        go_roundw
        case rel => exact ⟨i + 1, by omega, by go_num, by rw [E1.out, E2.out, next_get, said_get, HGV.out, HGB.out]; exact HG.out⟩
        case measure => simp [intOf]; omega
      · have c0 : wr.cell? ⟨q, o + i * 3, none⟩ = some (.int .i64 3) := c0
        have HW0 : Hid (Ch S0 wr ((wr.alloc (Obj.cells #[.int .i64 3, .int .u64 (k : Nat), .int .u64 (v : Nat)] 26)).alloc (Obj.cells #[.int .u64 0, .bool false] 30))) := Lib.hid (((Ch.refl _ _).alloc _).alloc _)
        obtain ⟨⟨tb1, et, T1, hF1, he1, hd1⟩, hO1, hCh1⟩ := HJ.out
        have HD1 := Lib.hid hd1
        have hsz1 := hCh1.size
        have hcall := fiExists_any fb tb1 et s.2 k T1 s.1 _ (hF1.keep HW0.out)
        obtain ⟨gb, hgb⟩ : ∃ gb, (s.1 k).isSome = gb := ⟨_, rfl⟩
        rw [hgb] at hcall
        have HCall := Lib.hid hcall
        have HGB := Lib.hid hgb
        clear hcall hgb
        have HJq : Hid (RunI w ((wr.alloc (Obj.cells #[.int .i64 3, .int .u64 (k : Nat), .int .u64 (v : Nat)] 26)).alloc (Obj.cells #[.int .u64 0, .bool gb] 30)) fb s u6 ys) := Lib.hid (HJ.out.keep (((Ch.refl _ _).alloc _).alloc _))
        have hOq := HJq.out.own
        have hszq : w.heap.size ≤ ((wr.alloc (Obj.cells #[.int .i64 3, .int .u64 (k : Nat), .int .u64 (v : Nat)] 26)).alloc (Obj.cells #[.int .u64 0, .bool gb] 30)).heap.size := HJq.out.ch.size
        clear hF1 he1 hd1 hO1 hCh1 HJ HD1
        go_wp2_with fail
        refine HCall.out.mono ?_
        rintro r w2 ⟨rfl, rfl⟩
        go_wp2_with (at_builtin; go_loud (refine app30 rfl _ _ rfl w.heap.size ys.length u6 _ rfl hOq (.int .u64 0) (.bool gb) rfl rfl (wr.heap.size + 1 + 1) (by simp) rfl (by omega) hszq ?_); intro v' w3 hown3 hgr3 hb3; have HG := Lib.hid (HJq.out.grow (y := (0, gb)) hown3 hgr3 hb3); clear hown3 hgr3 hb3)
        go_roundw
        case rel => exact ⟨i + 1, by omega, by go_num, by rw [E1.out, E2.out, next_has, said_has, HGB.out]; exact HG.out⟩
        case measure => simp [intOf]; omega
      · have c0 : wr.cell? ⟨q, o + i * 3, none⟩ = some (.int .i64 5) := c0
        have HW0 : Hid (Ch S0 wr ((wr.alloc (Obj.cells #[.int .i64 5, .int .u64 (k : Nat), .int .u64 (v : Nat)] 26)).alloc (Obj.cells #[.int .u64 0, .bool false] 30))) := Lib.hid (((Ch.refl _ _).alloc _).alloc _)
        obtain ⟨⟨tb1, et, T1, hF1, he1, hd1⟩, hO1, hCh1⟩ := HJ.out
        have HD1 := Lib.hid hd1
        have hsz1 := hCh1.size
        have HCall := Lib.hid (fiLen_any fb tb1 et s.2 T1 s.1 _ (hF1.keep HW0.out))
        have HJq : Hid (RunI w ((wr.alloc (Obj.cells #[.int .i64 5, .int .u64 (k : Nat), .int .u64 (v : Nat)] 26)).alloc (Obj.cells #[.int .u64 (s.2 : Nat), .bool false] 30)) fb s u6 ys) := Lib.hid (HJ.out.keep (((Ch.refl _ _).alloc _).alloc _))
        have hOq := HJq.out.own
        have hszq : w.heap.size ≤ ((wr.alloc (Obj.cells #[.int .i64 5, .int .u64 (k : Nat), .int .u64 (v : Nat)] 26)).alloc (Obj.cells #[.int .u64 (s.2 : Nat), .bool false] 30)).heap.size := HJq.out.ch.size
        clear hF1 he1 hd1 hO1 hCh1 HJ HD1
        go_wp2_with fail
        refine HCall.out.mono ?_
        rintro r w2 ⟨rfl, rfl⟩
        go_wp2_with (at_builtin; go_loud (refine app30 rfl _ _ rfl w.heap.size ys.length u6 _ rfl hOq (.int .u64 (s.2 : Nat)) (.bool false) rfl rfl (wr.heap.size + 1 + 1) (by simp) rfl (by omega) hszq ?_); intro v' w3 hown3 hgr3 hb3; have HG := Lib.hid (HJq.out.grow (y := (s.2, false)) hown3 hgr3 hb3); clear hown3 hgr3 hb3)
        go_roundw
        case rel => exact ⟨i + 1, by omega, by go_num, by rw [E1.out, E2.out, next_len, said_len]; exact HG.out⟩
        case measure => simp [intOf]; omega
    · obtain rfl : i = n := by omega
      have hlti : ¬ (i : Int) < (i : Nat) := by omega
      go_wp2_with fail
      go_ret
      exact ⟨⟨_, rfl, HJ.out.own⟩, HJ.out.ch⟩
end Go.Proofs.Ytjliofloheellaa
