/- WALKS: grOf; GRRun, GRDegree. -/
import Derived.Test.YtjifdcklmpibpaaDoorG
import Derived.Test.YtjifdcklmpibpaaDoorI
namespace Go.Proofs.YtjifdcklmpibpaaDoor
open Go.RowKit
set_option linter.unusedVariables false
set_option linter.unusedSimpArgs false

/-- Edges as cells. -/
def ev (xs : List (Int × Int)) : List Value := xs.flatMap fun x => [.int .i64 x.1, .int .i64 x.2]
theorem ev_length (xs : List (Int × Int)) : (ev xs).length = xs.length * 2 := by
  induction xs with
  | nil => rfl
  | cons x xs ih => simp only [ev, List.flatMap_cons, List.length_append, List.length_cons, List.length_nil] at *; omega
theorem ev_at (xs : List (Int × Int)) (j : Nat) (x : Int × Int) (h : xs[j]? = some x) : (ev xs)[j * 2]? = some (.int .i64 x.1) ∧ (ev xs)[j * 2 + 1]? = some (.int .i64 x.2) := by
  induction xs generalizing j with
  | nil => simp at h
  | cons y ys ih =>
    match j, h with
    | 0, h => simp at h; subst h; simp [ev]
    | j + 1, h =>
      have ih := ih j (by simpa using h)
      have l : ([Value.int .i64 y.1, .int .i64 y.2] : List Value).length = 2 := rfl
      simp only [ev, List.flatMap_cons] at ih ⊢
      constructor
      · rw [List.getElem?_append_right (by rw [l]; omega), l, show (j + 1) * 2 - 2 = j * 2 by omega]; exact ih.1
      · rw [List.getElem?_append_right (by rw [l]; omega), l, show (j + 1) * 2 + 1 - 2 = j * 2 + 1 by omega]; exact ih.2
theorem rd_edge {w : World} {A : Option Addr} {xs : List (Int × Int)} (h : Rd w A (ev xs)) {j : Nat} {x : Int × Int} (hj : xs[j]? = some x) :
    ∃ b o, A = some ⟨b, o, none⟩ ∧ w.cell? ⟨b, o + j * 2, none⟩ = some (.int .i64 x.1) ∧ w.cell? ⟨b, o + j * 2 + 1, none⟩ = some (.int .i64 x.2) := by
  obtain ⟨h1, h2⟩ := ev_at xs j x hj
  obtain ⟨b, o, e1, f1⟩ := h _ _ h1
  obtain ⟨b', o', e2, f2⟩ := h _ _ h2
  rw [e1] at e2
  cases e2
  exact ⟨b, o, e1, f1, f2⟩

def PG.errI (G : PG) (xs : List (Int × Int)) : List Int := (G.errs xs).map (fun (n : Nat) => (n : Int))
theorem PG.errI_len (G : PG) (xs : List (Int × Int)) : (G.errI xs).length = xs.length := by simp [PG.errI, PG.errs_len]
theorem PG.errI_snoc (G : PG) (xs : List (Int × Int)) (x : Int × Int) : G.errI (xs ++ [x]) = G.errI xs ++ [((G.adds xs).err x.1 x.2 : Int)] := by simp [PG.errI, PG.errs_snoc]

/-- What grOf's loop holds. -/
structure LI (W wr : World) (g ob : Nat) (vs : Int → Option Nat) (G : PG) (vo : Value) (es : List Int) : Prop where
  gr : GR wr W.heap.size g ob vs G
  own : wr.ownsRow W.heap.size 3 1 vo es.length (iv es)
  ap : ∀ b, vo.ownBlock = some b → ¬ InG g ob vs b
  ch : Ch S0 W wr

theorem LI.keep {W wr w' : World} {g ob : Nat} {vs : Int → Option Nat} {G : PG} {vo : Value} {es : List Int} (h : LI W wr g ob vs G vo es) (hc : Ch S0 wr w') : LI W w' g ob vs G vo es :=
  ⟨h.gr.keep hc (fun _ _ h => h), own_keep0 h.own hc, h.ap, h.ch.trans hc⟩
theorem LI.edge {W wr w' : World} {g ob : Nat} {vs vs' : Int → Option Nat} {G G' : PG} {vo : Value} {es : List Int} (h : LI W wr g ob vs G vo es) (h1 : GR w' W.heap.size g ob vs' G') (h2 : ∀ k, InG g ob vs' k → InG g ob vs k ∨ wr.heap.size ≤ k) (hc : Ch (InG g ob vs) wr w') : LI W w' g ob vs' G' vo es :=
  ⟨h1, own_keepS h.own hc (fun b hb hs => h.ap b hb hs), fun b hb hi => (h2 b hi).elim (h.ap b hb) (fun h' => by have := own_lt h.own b hb; omega), h.ch.trans' hc (fun k hk hs => by have := h.gr.lo k hs; omega)⟩
theorem LI.grow {W wr w' : World} {g ob : Nat} {vs : Int → Option Nat} {G : PG} {vo v' : Value} {es es' : List Int} (h : LI W wr g ob vs G vo es) (hown : w'.ownsRow W.heap.size 3 1 v' es'.length (iv es')) (hc : Ch (fun k => vo.ownBlock = some k) wr w') (hb : v'.ownBlock = vo.ownBlock ∨ v'.ownBlock = some (wr.heap.size + 1)) : LI W w' g ob vs G v' es' := by
  refine ⟨h.gr.keep hc (fun k hk hs => h.ap k hs hk), hown, fun b hb' hi => ?_, h.ch.trans' hc (fun k hk hs => by have := own_lt h.own k hs; omega)⟩
  rcases hb with e | e
  · rw [e] at hb'; exact h.ap b hb' hi
  · rw [e] at hb'
    have := h.gr.gg.inlt hi
    have := Option.some.inj hb'
    omega

set_option maxRecDepth 100000 in
theorem grof_any (n cap : Nat) (A : Option Addr) (xs : List (Int × Int)) (B : Nat) (e1 e2 e3 : Addr) (w : World) (hn : xs.length = n) (hn1 : n ≤ 1000) (hA : Rd w A (ev xs)) (hE : Er w B e1 e2 e3) :
    Calls Tryd.prog 16 #[.slice A n cap] w fun r w' => ∃ g ob vs v, r = .returned (.tuple #[.pointer (some ⟨g, 0, none⟩), v]) ∧ LI w w' g ob vs (PG.nil.adds xs) v (PG.nil.errI xs) := by
  have HA := Lib.hid hA
  have HE := Lib.hid hE.top
  have HN := Lib.hid hn
  clear hA hE hn
  go_enter Tryd.func16, Tryd.ntmps16
  go_wp2_with fail
  refine (new_graph _).mono ?_
  rintro r w1 ⟨⟨g, ob, rfl, hG, hg, hob⟩, hC⟩
  have hI : LI w w1 g ob (fun _ => none) PG.nil (.slice none 0 0) [] := ⟨⟨hG, fun _ => rfl, PG.Ok.nil, fun k hk => by
    rcases hk with rfl | rfl | ⟨x, hx⟩
    · exact hg
    · exact hob
    · cases hx⟩, World.ownsRow_nil _ _ _ _, fun b hb => (by cases hb), hC⟩
  have HI := Lib.hid hI
  clear hG hg hob hC hI
  go_wp2_with fail
  go_loopw [5, 11] (fun vo vi wr => ∃ i : Nat, i ≤ n ∧ vi = .int .i64 i ∧ ∃ vs, LI w wr g ob vs (PG.nil.adds (xs.take i)) vo (PG.nil.errI (xs.take i))) (fun _ vi _ => n - (intOf vi).toNat)
  case atStart => exact ⟨0, by omega, rfl, _, HI.out⟩
  case round =>
    obtain ⟨i, hi, rfl, vs, hJ⟩ := hrel
    have HJ := Lib.hid hJ
    clear hJ
    by_cases hlt : i < n
    · have hlti : (i : Int) < (n : Nat) := by omega
      obtain ⟨x, hx⟩ : ∃ x, xs[i]? = some x := ⟨xs[i]'(by have := HN.out; omega), by simp [HN.out, hlt]⟩
      obtain ⟨q, o, hAe, c0, c1⟩ := rd_edge (HA.out.keep0 HJ.out.ch) hx
      subst hAe
      have hql := World.block_lt_of_cell? wr _ c0
      obtain ⟨x1, x2⟩ := x
      simp only at c0 c1
      have hts : xs.take (i + 1) = xs.take i ++ [(x1, x2)] := by rw [List.take_add_one, hx]; rfl
      have HT := Lib.hid hts
      obtain ⟨G, hGe⟩ : ∃ G, PG.nil.adds (xs.take i) = G := ⟨_, rfl⟩
      obtain ⟨es, hes⟩ : ∃ es, PG.nil.errI (xs.take i) = es := ⟨_, rfl⟩
      have hnv := (PG.adds_n (xs.take i) PG.nil)
      rw [List.length_take] at hnv
      have hel : es.length ≤ 1000 := by rw [← hes, PG.errI_len, List.length_take]; omega
      have e1' := PG.adds_snoc PG.nil (xs.take i) (x1, x2)
      have e2' := PG.errI_snoc PG.nil (xs.take i) (x1, x2)
      rw [hGe] at HJ hnv e1' e2'
      rw [hes] at HJ e2'
      rw [← hts] at e1' e2'
      have h1 : G.nv < 100000 := by have := hnv.1; simp only [PG.nil] at this; omega
      have h2 : G.ne < 100000 := by have := hnv.2; simp only [PG.nil] at this; omega
      have HE1 := Lib.hid e1'
      have HE2 := Lib.hid e2'
      clear hx hts hGe hes hnv e1' e2'
      go_wp2_with fail
      have HJ1 := Lib.hid (HJ.out.keep ((Ch.refl S0 wr).alloc (.cells #[.int .i64 x1, .int .i64 x2] 24)))
      refine (edge_any w.heap.size g ob vs G e1 e2 e3 x1 x2 _ HJ1.out.gr (HE.out.keep0 HJ1.out.ch) h1 h2).mono ?_
      rintro r w2 ⟨rfl, ⟨vs2, hG2, hin2⟩, hC2⟩
      have HJ2 := Lib.hid (HJ1.out.edge hG2 hin2 hC2)
      clear hG2 hin2 hC2
      have hel2 := G.err_lt x1 x2
      obtain ⟨c, hc⟩ : ∃ c, G.err x1 x2 = c := ⟨_, rfl⟩
      rw [hc] at hel2
      rw [hc]
      have HCe := Lib.hid hc
      clear hc
      go_wp2_with fail
      refine (err_any w.heap.size e1 e2 e3 c hel2 _ (HE.out.keep0 HJ2.out.ch)).mono ?_
      rintro r w3 ⟨rfl, rfl⟩
      go_wp2_with (at_builtin; go_loud (refine app_own elInt rfl _ _ rfl w.heap.size es.length u5 (iv es) rfl HJ2.out.own [.int .i64 (c : Nat)] rfl (by simp [Value.oneCell']) _ rfl rfl (by unfold maxLen; omega) (by omega) HJ2.out.ch.size ?_); intro v' w4 hown4 hc4 hb4; have HG := Lib.hid (HJ2.out.grow (es' := es ++ [(c : Int)]) (by simpa [iv_snoc] using hown4) hc4 hb4); clear hown4 hc4 hb4)
      go_roundw
      case rel => exact ⟨i + 1, by omega, by go_num, vs2, by rw [HE1.out, HE2.out, HCe.out]; exact HG.out⟩
      case measure => simp [intOf]; omega
    · have hin : ¬ (i : Int) < (n : Nat) := by omega
      have hie : i = n := by omega
      go_wp2_with fail
      go_ret2
      refine ⟨g, ob, vs, _, rfl, ?_⟩
      have := HJ.out
      rw [hie, ← HN.out, List.take_length] at this
      exact this

set_option maxRecDepth 100000 in
theorem grrun_any (n cap : Nat) (A : Option Addr) (xs : List (Int × Int)) (B : Nat) (e1 e2 e3 : Addr) (w : World) (hn : xs.length = n) (hn1 : n ≤ 1000) (hA : Rd w A (ev xs)) (hE : Er w B e1 e2 e3) :
    Calls Tryd.prog 8 #[.slice A n cap] w fun r w' => ∃ v, r = .returned (.tuple #[v, .int .i64 ((PG.nil.adds xs).nv : Nat), .int .i64 ((PG.nil.adds xs).ne : Nat)]) ∧ w'.ownsRow w.heap.size 3 1 v n (iv (PG.nil.errI xs)) ∧ Ch S0 w w' := by
  have HA := Lib.hid hA
  have HE := Lib.hid hE
  have HN := Lib.hid hn
  clear hA hE hn
  obtain ⟨G, hG⟩ : ∃ G, PG.nil.adds xs = G := ⟨_, rfl⟩
  rw [hG]
  have HG := Lib.hid hG
  clear hG
  go_enter Tryd.func8, Tryd.ntmps8
  go_wp2_with fail
  refine (grof_any n cap A xs B e1 e2 e3 _ HN.out hn1 HA.out HE.out).mono ?_
  rintro r w1 ⟨g, ob, vs, v, rfl, hL⟩
  rw [HG.out] at hL
  have HL := Lib.hid hL
  clear hL
  go_wp2_with fail
  refine (v_any HL.out.gr).mono ?_
  rintro r w2 ⟨rfl, rfl⟩
  go_wp2_with fail
  refine (e_any HL.out.gr).mono ?_
  rintro r w2 ⟨rfl, rfl⟩
  go_wp2_with fail
  go_ret3
  refine ⟨v, rfl, ?_, HL.out.ch⟩
  have := HL.out.own
  rw [PG.errI_len, HN.out] at this
  exact this

set_option maxRecDepth 100000 in
theorem grdeg_any (n cap : Nat) (A : Option Addr) (xs : List (Int × Int)) (B : Nat) (e1 e2 e3 : Addr) (k : Int) (w : World) (hn : xs.length = n) (hn1 : n ≤ 1000) (hA : Rd w A (ev xs)) (hE : Er w B e1 e2 e3) :
    Calls Tryd.prog 10 #[.slice A n cap, .int .i64 k] w fun r w' => r = .returned (.tuple #[.int .i64 (if (PG.nil.adds xs).ver k then (PG.nil.adds xs).deg k else 0 : Nat), .int .i64 (if (PG.nil.adds xs).ver k then 0 else 1 : Nat)]) ∧ Ch S0 w w' := by
  have HA := Lib.hid hA
  have HE := Lib.hid hE
  have HN := Lib.hid hn
  clear hA hE hn
  obtain ⟨G, hG⟩ : ∃ G, PG.nil.adds xs = G := ⟨_, rfl⟩
  rw [hG]
  have HG := Lib.hid hG
  clear hG
  go_enter Tryd.func10, Tryd.ntmps10
  go_wp2_with fail
  refine (grof_any n cap A xs B e1 e2 e3 _ HN.out hn1 HA.out HE.out).mono ?_
  rintro r w1 ⟨g, ob, vs, v, rfl, hL⟩
  rw [HG.out] at hL
  have HL := Lib.hid hL
  clear hL
  by_cases hk : G.ver k = true
  · go_wp2_with fail
    refine (deg_there k HL.out.gr hk).mono ?_
    rintro r w2 ⟨rfl, rfl⟩
    go_wp2_with fail
    refine (err_any B e1 e2 e3 0 (by omega) _ (HE.out.keep0 HL.out.ch)).mono ?_
    rintro r w3 ⟨rfl, rfl⟩
    go_wp2_with fail
    go_ret2
    exact ⟨by simp [hk], HL.out.ch⟩
  · have hk : G.ver k = false := by simpa using hk
    go_wp2_with fail
    refine (deg_none k HL.out.gr (HE.out.keep0 HL.out.ch) hk).mono ?_
    rintro r w2 ⟨rfl, hC2⟩
    have HC2 := Lib.hid (HL.out.ch.trans hC2)
    clear hC2
    go_wp2_with fail
    refine (err_any B e1 e2 e3 1 (by omega) _ (HE.out.keep0 HC2.out)).mono ?_
    rintro r w3 ⟨rfl, rfl⟩
    go_wp2_with fail
    go_ret2
    exact ⟨by simp [hk], HC2.out⟩
end Go.Proofs.YtjifdcklmpibpaaDoor
