/- WALKS: Adj of whatever vertex, GRAdj. -/
import Derived.Test.YtjifdcklmpibpaaDoorJ
namespace Go.Proofs.YtjifdcklmpibpaaDoor
open Go.RowKit
set_option linter.unusedVariables false
set_option linter.unusedSimpArgs false

theorem errn (a : Addr) (w : World) : (binOp .neq 53 (.iface 108 (.pointer (some a))) .nilIface).run Tryd.prog w = .ok (.bool true) w := by
  have h : ∀ d : Nat, (Op.equalIn (d + 1) 53 (.iface 108 (.pointer (some a))) .nilIface).run Tryd.prog w = .ok false w := fun d => by simp [Op.equalIn, run_underlying Tryd.underlying53]
  simp only [binOp]
  simp [Op.equal, Op.maxDepth, h 9999]

set_option maxRecDepth 100000 in
theorem adj_none {w : World} {B B2 g ob : Nat} {vs : Int → Option Nat} {G : PG} {e1 e2 e3 : Addr} (k : Int) (h : GR w B g ob vs G) (hE : Er w B2 e1 e2 e3) (hk : G.ver k = false) :
    Calls Tryd.prog 21 #[.pointer (some ⟨g, 0, none⟩), .iface 3 (.int .i64 k)] w fun r w' => r = .returned (.tuple #[.slice none 0 0, .iface 108 (.pointer (some e1))]) ∧ Ch S0 w w' := by
  have HD := Lib.hid (deg_none k h hE hk)
  have HE := Lib.hid hE
  have hnn := fun w => errn e1 w
  clear h hk hE
  go_enter Tryd.func21, Tryd.ntmps21
  go_wp2_with fail
  refine HD.out.mono ?_
  rintro r w1 ⟨rfl, hC⟩
  have HC := Lib.hid hC
  have v1 := (HE.out.keep0 hC).v1
  clear hC
  go_wp2_with fail
  go_quiet (fail)
  go_wp2_with fail
  go_ret2
  exact ⟨rfl, by first | exact HC.out | exact HC.out.drew | exact HC.out.trans ⟨rfl, rfl, rfl, Nat.le_refl _, fun _ _ _ => rfl⟩⟩

/-- Adj, whatever the vertex. -/
theorem adj_any {w : World} {B B2 g ob : Nat} {vs : Int → Option Nat} {G : PG} {e1 e2 e3 : Addr} (k : Int) (h : GR w B g ob vs G) (hE : Er w B2 e1 e2 e3) (hd : G.deg k ≤ 1000) :
    Calls Tryd.prog 21 #[.pointer (some ⟨g, 0, none⟩), .iface 3 (.int .i64 k)] w fun r w' => ∃ (done : List Int) (A : Option Addr), r = .returned (.tuple #[.slice A done.length done.length, errV e1 e2 e3 (if G.ver k then 0 else 1)]) ∧ done.length = G.deg k ∧ done.Nodup ∧ (∀ y, y ∈ done ↔ G.adj k y = true) ∧ Rd w' A (done.map fun y => ik 3 .i64 y) ∧ Ch S0 w w' := by
  by_cases hk : G.ver k = true
  · refine (adj_there k h hk hd).mono fun r w' ⟨done, ab, h1, h2, h3, h4, h5, h6⟩ => ⟨done, _, ?_, h2, h3, h4, h5, h6⟩
    rw [h1, h2]
    simp [hk, errV]
  · have hk : G.ver k = false := by simpa using hk
    obtain ⟨n1, n2⟩ := h.ok.no k hk
    refine (adj_none k h hE hk).mono fun r w' ⟨h1, h2⟩ => ⟨[], none, ?_, ?_, by simp, fun y => by simp [n1], by simpa using Rd.nil _ _, h2⟩
    · rw [h1]; simp [hk, errV]
    · simp [n2]

set_option maxRecDepth 100000 in
theorem gradj_any (n cap : Nat) (A : Option Addr) (xs : List (Int × Int)) (B : Nat) (e1 e2 e3 : Addr) (k : Int) (w : World) (hn : xs.length = n) (hn1 : n ≤ 1000) (hA : Rd w A (ev xs)) (hE : Er w B e1 e2 e3) :
    Calls Tryd.prog 11 #[.slice A n cap, .int .i64 k] w fun r w' => ∃ (done : List Int) (v : Value), r = .returned (.tuple #[v, .int .i64 (if (PG.nil.adds xs).ver k then 0 else 1 : Nat)]) ∧ done.length = (PG.nil.adds xs).deg k ∧ done.Nodup ∧ (∀ y, y ∈ done ↔ (PG.nil.adds xs).adj k y = true) ∧ w'.ownsRow w.heap.size 3 1 v done.length (iv done) ∧ Ch S0 w w' := by
  have hdl := PG.deg_le xs k PG.nil
  have HA := Lib.hid hA
  have HE := Lib.hid hE
  have HN := Lib.hid hn
  have hdl : (PG.nil.adds xs).deg k ≤ 1000 := by simp only [PG.nil] at hdl ⊢; omega
  clear hA hE hn
  obtain ⟨G, hG⟩ : ∃ G, PG.nil.adds xs = G := ⟨_, rfl⟩
  rw [hG] at hdl
  rw [hG]
  have HG := Lib.hid hG
  obtain ⟨c, hc⟩ : ∃ c, (if G.ver k then 0 else 1 : Nat) = c := ⟨_, rfl⟩
  have hc4 : c < 4 := by rw [← hc]; split <;> omega
  rw [hc]
  have HCe := Lib.hid hc
  clear hG hc
  go_enter Tryd.func11, Tryd.ntmps11
  go_wp2_with fail
  refine (grof_any n cap A xs B e1 e2 e3 _ HN.out hn1 HA.out HE.out).mono ?_
  rintro r w1 ⟨g, ob, vs, v, rfl, hL⟩
  rw [HG.out] at hL
  have HL := Lib.hid hL
  clear hL
  go_wp2_with fail
  refine (adj_any k HL.out.gr (HE.out.keep0 HL.out.ch) hdl).mono ?_
  rintro r w2 ⟨done, A2, rfl, hdl2, hnd, hmem, hrd, hC2⟩
  rw [HCe.out]
  have HDl := Lib.hid hdl2
  have HNd := Lib.hid hnd
  have HMem := Lib.hid hmem
  have HRd := Lib.hid hrd
  have HC2 := Lib.hid (HL.out.ch.trans hC2)
  have hdn : done.length ≤ 1000 := by omega
  clear hdl2 hnd hmem hrd hC2 hdl
  go_wp2_with fail
  go_loopw [4, 26] (fun vo vi wr => ∃ i : Nat, i ≤ done.length ∧ vi = .int .i64 i ∧ wr.ownsRow w.heap.size 3 1 vo i (iv (done.take i)) ∧ (∀ b, vo.ownBlock = some b → w2.heap.size ≤ b) ∧ Ch S0 w2 wr) (fun _ vi _ => done.length - (intOf vi).toNat)
  case atStart => exact ⟨0, by omega, rfl, World.ownsRow_nil _ _ _ _, fun b hb => (by cases hb), Ch.refl _ _⟩
  case round =>
    obtain ⟨i, hi, rfl, hO, hlo, hC⟩ := hrel
    have HO := Lib.hid hO
    have HLo := Lib.hid hlo
    have HC := Lib.hid hC
    clear hO hlo hC
    by_cases hlt : i < done.length
    · have hlti : (i : Int) < (done.length : Nat) := by omega
      obtain ⟨y, hy⟩ : ∃ y, done[i]? = some y := ⟨done[i], by simp [hlt]⟩
      obtain ⟨q, o, hAe, c0⟩ := (HRd.out.keep0 HC.out).at (j := i) (x := ik 3 .i64 y) (by simp [hy])
      subst hAe
      have c0 : wr.cell? ⟨q, o + i, none⟩ = some (.iface 3 (.int .i64 y)) := c0
      have hty : ∀ w, (Instr.typeAssert (.iface 3 (.int .i64 y)) 20 3 false).run Tryd.prog w = .ok (.int .i64 y) w := fun _ => by kernel_rfl
      have hts : done.take (i + 1) = done.take i ++ [y] := by rw [List.take_add_one, hy]; rfl
      have HT := Lib.hid hts
      have hsz := (HC2.out.trans HC.out).size
      clear hts hy
      go_wp2_with (at_builtin; go_loud (refine app_own elInt rfl _ _ rfl w.heap.size i u4 (iv (done.take i)) rfl HO.out [.int .i64 y] rfl (by simp [Value.oneCell']) _ rfl rfl (by unfold maxLen; omega) (by omega) hsz ?_); intro v' w4 hown4 hc4 hb4; have HOw := Lib.hid hown4; have HC4 := Lib.hid hc4; have HB4 := Lib.hid hb4; clear hown4 hc4 hb4)
      go_roundw
      case rel =>
        refine ⟨i + 1, by omega, by go_num, by rw [HT.out, iv_snoc]; exact HOw.out, fun b hb => ?_, HC.out.trans' HC4.out (fun j hj hs => by have := HLo.out j hs; omega)⟩
        rcases HB4.out with e | e
        · rw [e] at hb; exact HLo.out b hb
        · rw [e] at hb
          have := Option.some.inj hb
          have := HC.out.size
          omega
      case measure => simp [intOf]; omega
    · have hin : ¬ (i : Int) < (done.length : Nat) := by omega
      have hie : i = done.length := by omega
      go_wp2_with fail
      refine (err_any B e1 e2 e3 c hc4 _ (HE.out.keep0 (HC2.out.trans HC.out))).mono ?_
      rintro r w3 ⟨rfl, rfl⟩
      go_wp2_with fail
      go_ret2
      refine ⟨done, _, rfl, HDl.out, HNd.out, HMem.out, ?_, HC2.out.trans HC.out⟩
      have := HO.out
      rw [hie, List.take_length] at this
      exact this
end Go.Proofs.YtjifdcklmpibpaaDoor
