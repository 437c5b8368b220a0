/- WALKS: a step that puts elements. -/
import Derived.Test.YtpkeiankocimaaaDoorG
namespace Go.Proofs.YtpkeiankocimaaaDoor
open Go.RowKit
set_option linter.unusedVariables false
set_option linter.unusedSimpArgs false

theorem put_any (base q n cap g mb k c : Nat) (A : Option Addr) (dup : Bool) (a its : List El) (w : World) (h : QS w base q n cap g mb dup a) (hb : base ≤ w.heap.size) (hR : Rd w A (ev its)) (hk : its.length = k) (hk0 : 0 < k) (hl : a.length + k ≤ 2000)
    (hnd : dup = true ∨ (a ++ its).Nodup) (h3 : ∀ b o, A = some ⟨b, o, none⟩ → ¬ SQ q mb g b) :
    Calls Tryd.prog 18 #[.pointer (some ⟨q, 0, none⟩), .slice A k c] w fun r w' => r = .returned .nilIface ∧ PutR w base q g mb dup a its w' ∧ Ch (SQ q mb g) w w' := by
  cases dup
  · exact put_once base q n cap g mb k c A a its w h hb hR hk hk0 hl (hnd.resolve_left (by decide)) h3
  · exact put_dup base q n cap g mb k c A a its w h hb hR hk hk0 hl h3

set_option maxHeartbeats 8000000 in
set_option maxRecDepth 100000 in
theorem step_put (base q n cap g mb : Nat) (dup : Bool) (a : List El) (m : Int) (A : Option Addr) (len cp : Nat) (its : List El) (w : World) (h : QS w base q n cap g mb dup a) (hb : base ≤ w.heap.size) (hok : a.length + its.length ≤ 2000) (hnd : dup = true ∨ (a ++ its).Nodup) (h0 : 0 < len)
    (hs : St1 w noB ⟨1, m, A, len, cp, its⟩) :
    Calls Tryd.prog 15 #[.pointer (some ⟨q, 0, none⟩), stepV ⟨1, m, A, len, cp, its⟩] w fun r w' => StepX w base q g mb dup a ⟨1, m, A, len, cp, its⟩ r w' := by
  obtain ⟨hil, hR, _⟩ := hs
  have hil : its.length = len := hil
  have hR : Rd w A (pv its) := hR
  have hgl : g < w.heap.size := (own_lt h.qm.row g rfl).2
  have hql := h.qm.blk.lt
  have hml : mb < w.heap.size := by
    obtain ⟨f, nn, hm, _⟩ := h.map
    exact hm.lt
  obtain ⟨W1, hW1⟩ : ∃ W1, W1 = (w.alloc (.cells #[.int .i64 1, .int .i64 m, .slice A len cp] 32)).alloc (.cells #[.slice none 0 0, .int .i64 0, .bool false, .int .i64 0] 36) := ⟨_, rfl⟩
  have hC1 : Ch S0 w W1 := by rw [hW1]; exact ((Ch.refl _ _).alloc _).alloc _
  have hs1 : W1.heap.size = w.heap.size + 1 + 1 := by rw [hW1, World.size_alloc, World.size_alloc]
  have hB1 : Blk W1 (w.heap.size + 1) #[.slice none 0 0, .int .i64 0, .bool false, .int .i64 0] := by
    have := Blk.new (w.alloc (.cells #[.int .i64 1, .int .i64 m, .slice A len cp] 32)) #[.slice none 0 0, .int .i64 0, .bool false, .int .i64 0] 36
    rw [World.size_alloc] at this
    rw [hW1]
    exact this
  have HH := Lib.hid h
  have HR := Lib.hid hR
  have HIl := Lib.hid hil
  have HW1 := Lib.hid hW1
  have HC1 := Lib.hid hC1
  have HB1 := Lib.hid hB1
  have HNd := Lib.hid hnd
  clear h hR hil hW1 hC1 hB1 hnd
  unfold stepV
  go_enter Tryd.func15, Tryd.ntmps15
  go_upto_region 5 with fail
  rw [← HW1.out]
  go_wp2_with fail
  go_loopw [5, 22] (fun vl vi wr => ∃ i : Nat, i ≤ len ∧ vi = .int .i64 i ∧ wr.ownsRow W1.heap.size 63 1 vl i (ev (its.take i)) ∧ Ch S0 W1 wr) (fun _ vi _ => len - (intOf vi).toNat)
  case atStart => exact ⟨0, by omega, rfl, World.ownsRow_nil _ _ _ _, Ch.refl _ _⟩
  case round =>
    obtain ⟨i, hi, rfl, hO, hC⟩ := hrel
    have hsz := hC.size
    have HO := Lib.hid hO
    have HC := Lib.hid hC
    clear hO hC
    by_cases hlt : i < len
    · have hlti : (i : Int) < (len : Nat) := by omega
      have hi0 : (0 : Int) ≤ (i : Nat) := by omega
      obtain ⟨x, hx⟩ : ∃ x, its[i]? = some x := ⟨its[i]'(by have := HIl.out; omega), by simp [HIl.out, hlt]⟩
      obtain ⟨qa, o, e, c0, c1⟩ := rd_pv (HR.out.keep0 (HC1.out.trans HC.out)) hx
      subst e
      have HT : Hid (its.take (i + 1) = its.take i ++ [x]) := Lib.hid (by rw [List.take_add_one, hx]; rfl)
      clear hx
      obtain ⟨x1, x2⟩ := x
      simp only at c0 c1
      go_wp2_with (at_builtin; go_loud (refine app_own elIt rfl (.tmp 26) (.tmp 30) rfl W1.heap.size i u5 (ev (its.take i)) rfl (own_keep0 HO.out ((Ch.refl S0 wr).alloc _)) [kV (x1, x2)] rfl (by simp [Value.oneCell']) (wr.heap.size + 1) (World.size_alloc _ _) rfl (by unfold maxLen; omega) (by omega) (by simp only [World.size_alloc]; omega) ?_); intro v' w4 hown4 hc4 hb4; have HOw := Lib.hid hown4; have HC4 := Lib.hid hc4; clear hown4 hc4 hb4)
      go_roundw
      case rel =>
        refine ⟨i + 1, by omega, by go_num, by rw [HT.out, ev_snoc]; exact HOw.out, ?_⟩
        exact (HC.out.alloc _).trans' HC4.out (fun j hj e => absurd (own_lt HO.out j e).1 (by omega))
      case measure => simp [intOf]; omega
    · have hin : ¬ (i : Int) < (len : Nat) := by omega
      have hie : i = len := by omega
      subst hie
      obtain ⟨Al, cl, rfl, hRl, _, hAl, _, _⟩ := own_rd HO.out
      have htk : its.take i = its := by rw [← HIl.out, List.take_length]
      rw [htk] at hRl
      have hQr := HH.out.keep (HC1.out.trans HC.out) (fun h => h) (fun h => h) (fun h => h)
      have hput := put_any base q n cap g mb i cl Al dup a its wr hQr (by omega) hRl HIl.out h0 (by have := HIl.out; omega) HNd.out (fun b o h e => by
        have := (hAl b o none h).2.1
        rcases e with e | e | e <;> omega)
      have HP := Lib.hid hput
      clear htk hRl hAl hQr hput
      go_wp2_with fail
      refine HP.out.mono ?_
      rintro r w5 ⟨rfl, ⟨g', cap', n', c, hQ5, hP5, hg5⟩, hC5⟩
      have hB5 := (HB1.out.keep HC.out (fun h => h)).keep hC5 (fun e => by rcases e with e | e | e <;> omega)
      have z0 := hB5.cell 0
      have z1 := hB5.cell 1
      have z2 := hB5.cell 2
      have z3 := hB5.cell 3
      have y0 := hB5.free 0
      have y1 := hB5.free 1
      have y2 := hB5.free 2
      have y3 := hB5.free 3
      simp only [List.getElem?_toArray, List.getElem?_cons_zero, List.getElem?_cons_succ] at z0 z1 z2 z3
      have hl5 := hB5.lt
      have HB5 := Lib.hid hB5
      have HQ5 := Lib.hid hQ5
      have HP5 := Lib.hid hP5
      have HG5 := Lib.hid hg5
      have HC5 := Lib.hid hC5
      clear hB5 hQ5 hP5 hg5 hC5
      go_wp2_with fail
      refine (pqError_nil _).mono ?_
      rintro r _ ⟨rfl, rfl⟩
      go_wp2_with fail
      refine bodyPost_ret (v := .agg #[.slice none 0 0, .int .i64 0, .bool false, .int .i64 0]) (by simp [results, Tryd.results15, go_sem, z0, z1, z2, z3, hl5]) rfl ?_
      have hcc : Ch (SQ q mb g) w _ := ((HC1.out.trans HC.out).mono (fun _ _ h => h.elim)).trans HC5.out
      refine step_end (z := w.heap.size + 1) (d := ⟨none, 0, 0, [], 0, false⟩) (by omega) hl5 hcc HQ5.out (by have := HG5.out; omega) (by have := HG5.out; omega) hql hml (ch4 _ _ _ _ _ _) rfl (Rd.nil _ _) (fun b o e => by cases e) ?_
      exact does1 rfl ⟨HP5.out, rfl⟩
end Go.Proofs.YtpkeiankocimaaaDoor
