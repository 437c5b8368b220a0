/- WALKS: the search among two rows; a row cut in three; an append of what stands there. -/
import Derived.Test.YtbfcnimebdoagaaMD
import Derived.ArgAppend
import Derived.Laws.CopyOwn
namespace Go.Proofs.Ytbfcnimebdoagaa
open Go.RowKit
set_option linter.unusedVariables false
set_option linter.unusedSimpArgs false

theorem setCell_self {w : World} {b o : Nat} {v : Value} (h : w.cell? ⟨b, o, none⟩ = some v) : w.setCell ⟨b, o, none⟩ v = w := by
  have hh : w.heap.modify b (fun | .cells c elem frozen => .cells (c.setIfInBounds o v) elem frozen | o => o) = w.heap := by
    apply Array.ext_getElem?
    intro i
    rw [Array.getElem?_modify]
    by_cases hi : b = i
    · subst hi
      rw [if_pos rfl]
      cases hx : w.heap[b]? with
      | none => rfl
      | some x =>
        simp only [World.cell?, hx] at h
        cases x with
        | cells c e f =>
          simp only [Option.map_some]
          have h : c[o]? = some v := by simpa using h
          obtain ⟨ho, hv⟩ := Array.getElem?_eq_some_iff.1 h
          congr 2
          apply Array.ext_getElem?
          intro j
          rw [Array.getElem?_setIfInBounds]
          by_cases hj : o = j
          · subst hj
            rw [if_pos rfl, if_pos ho, h]
          · rw [if_neg hj]
        | _ => rfl
    · rw [if_neg hi]
  have h2 : ({ w with heap := w.heap.modify b (fun | .cells c elem frozen => .cells (c.setIfInBounds o v) elem frozen | o => o) } : World) = { w with heap := w.heap } := congrArg (fun hp => ({ w with heap := hp } : World)) hh
  refine Eq.trans ?_ h2
  unfold World.setCell
  simp only [Option.isSome_none, Bool.false_eq_true, if_false]
  rfl
theorem setCells_same (b : Nat) : ∀ (vs : List Value) (o : Nat) (w : World), (∀ j u, vs[j]? = some u → w.cell? ⟨b, o + j, none⟩ = some u) → w.setCells b o vs = w
  | [], _, _, _ => rfl
  | v :: r, o, w, h => by
    have h0 := h 0 v rfl
    rw [World.setCells, setCell_self (by simpa using h0)]
    exact setCells_same b r (o + 1) w (fun j u hj => by have := h (j + 1) u (by simpa using hj); rwa [show o + (j + 1) = o + 1 + j by omega] at this)

/-- out = append(l, ..) of what stands behind l already. -/
theorem app_same {P : Program} {w : World} {ops : Array Oper} {rest : List Oper} {o : Oper} {a : Act} {Q : Exit → Act → World → Prop} {T E bytes : Nat} (L : EL P T E 1 bytes) (hgd : o.guard = none) (s x : Operand)
    (ho : o.op = .call { callee := .builtin .append, args := #[s, x], argTypes := #[T, T] }) (b off n cap m c : Nat) (A : Option Addr) (news : List Value) (hs : a.eval s = .slice (some ⟨b, off, none⟩) n cap) (hx : a.eval x = .slice A m c)
    (hA : 0 < m → A = some ⟨b, off + n, none⟩) (hA0 : A ≠ none) (hr : Rd w (some ⟨b, off + n, none⟩) news) (hm : news.length = m) (h1 : ∀ u ∈ news, u.oneCell' = true) (hroom : n + m ≤ cap) (hf : ∀ j, w.frozen? ⟨b, j, none⟩ = false)
    (h : wpList P ops Q rest (a.put o.dst (.slice (some ⟨b, off, none⟩) (n + m) cap)) w) : wpList P ops Q (o :: rest) a w := by
  obtain ⟨ht, ⟨i0, z, hi0, hz0, hz1, hz2, hz3⟩, hp⟩ := L
  obtain ⟨ad, rfl⟩ := Option.ne_none_iff_exists'.1 hA0
  have hcell : ∀ j u, news[j]? = some u → w.cell? ⟨b, off + n + j, none⟩ = some u := fun j u hj => by
    obtain ⟨b', o', e, hc⟩ := hr j u hj
    cases e
    exact hc
  have hsrc : ∀ j u, news[j]? = some u → w.cell? (ad.add j) = some u := fun j u hj => by
    have hjl := (List.getElem?_eq_some_iff.1 hj).1
    have e := hA (by omega)
    cases e
    have e2 : (⟨b, off + n, none⟩ : Addr).add j = ⟨b, off + n + j, none⟩ := by
      unfold Addr.add
      by_cases hx : j = 0
      · simp [hx]
      · simp [hx]
    rw [e2]
    exact hcell j u hj
  have hrun := run_append_room_cells (P := P) w T o.type E i0 ht hi0 b off n cap ad m c news (by rw [hz1]; omega) hsrc h1 hroom (fun j hj => by
    rw [hz1, Nat.mul_one]
    rw [hcell j news[j] (by simp [hj])]
    rfl) (fun j hj => hf _)
  rw [hz1, Nat.mul_one, setCells_same b news _ w hcell] at hrun
  refine wpList_plain hgd fun K' hK' => ?_
  unfold Oper.wp
  simp [execOp, ho, resolve, invoke, builtin, hs, hx, hrun, Result.andThen]
  exact hK' _ _ h

theorem rd_ev {w : World} {A : Option Addr} {n i : Nat} {f : Nat → El} (h : Rd w A (ev (lst n f))) (hi : i < n) : ∃ b o, A = some ⟨b, o, none⟩ ∧ w.cell? ⟨b, o + i, none⟩ = some (en (f i)) := h.at (ev_get (lst_at f hi))

set_option maxRecDepth 100000 in
theorem len_any (A : Option Addr) (n c : Nat) (w : World) : Calls Try.prog 57 #[.slice A n c] w fun r w' => r = .returned (.int .i64 n) ∧ w' = w := by
  go_enter Try.func57, Try.ntmps57
  go_wp2_with fail
  go_ret
  exact ⟨rfl, rfl⟩

set_option maxRecDepth 100000 in
theorem decomp_any (b L M c : Nat) (w : World) (h : L < M) (hc : M ≤ c) (hM : M ≤ 1000000) :
    Calls Try.prog 58 #[.int .i64 L, .slice (some ⟨b, 0, none⟩) M c] w fun r w' => r = .returned (.tuple #[.slice (some ⟨b, 0, none⟩) ((M - L) / 2) c, .slice (some ⟨b, (M - L) / 2, none⟩) L (c - (M - L) / 2), .slice (some ⟨b, (M - L) / 2 + L, none⟩) (M - ((M - L) / 2 + L)) (c - ((M - L) / 2 + L))]) ∧ w' = w := by
  obtain ⟨d, hd⟩ : ∃ d, d = M - L := ⟨_, rfl⟩
  obtain ⟨p, hp⟩ : ∃ p, p = d / 2 := ⟨_, rfl⟩
  obtain ⟨q, hq⟩ : ∃ q, q = p + L := ⟨_, rfl⟩
  rw [← hd, ← hp, ← hq]
  have hLM : ¬ (M : Int) ≤ (L : Nat) := by omega
  have hdi : (M : Int) - (L : Int) = (d : Nat) := by omega
  have hpi : ((d : Nat) : Int) / 2 = (p : Nat) := by omega
  have hqi : (p : Int) + (L : Int) = (q : Nat) := by omega
  have hpc : (p : Int) ≤ (c : Nat) := by omega
  have hp0 : (0 : Int) ≤ (p : Nat) := by omega
  have hpq : (p : Int) ≤ (q : Nat) := by omega
  have hqc : (q : Int) ≤ (c : Nat) := by omega
  have hqM : (q : Int) ≤ (M : Nat) := by omega
  have hn1 : ¬ c = p := by omega
  have hn2 : ¬ c = q := by omega
  have hqp : q - p = L := by omega
  clear hd hp hq
  go_enter Try.func58, Try.ntmps58
  go_wp2_with fail
  refine bodyPost_ret (v := .tuple #[.slice (some ⟨b, 0, none⟩) p c, .slice (some ⟨b, p, none⟩) L (c - p), .slice (some ⟨b, q, none⟩) (M - q) (c - q)]) (by simp [results, Try.results58, go_sem]) rfl ?_
  exact ⟨rfl, rfl⟩

set_option maxRecDepth 100000 in
set_option maxHeartbeats 4000000 in
theorem symSearch_any (A B : Option Addr) (L c1 c2 : Nat) (f h : Nat → El) (w : World) (hA : Rd w A (ev (lst L f))) (hB : Rd w B (ev (lst L h))) (h0 : 0 < L) (hn : L ≤ 1000000) (ha : Asc f 0 L) (hb : Asc h 0 L) :
    Calls Try.prog 59 #[.slice A L c1, .slice B L c2] w fun r w' => (∃ s : Nat, r = .returned (.int .i64 s) ∧ s ≤ L ∧ (∀ x, x < s → (f x).1 ≤ (h (L - 1 - x)).1) ∧ (∀ x, s ≤ x → x < L → (h (L - 1 - x)).1 < (f x).1)) ∧ Ch S0 w w' := by
  have HA := Lib.hid hA
  have HB := Lib.hid hB
  have HAs := Lib.hid ha
  have HBs := Lib.hid hb
  clear hA hB ha hb
  obtain ⟨tot, htot⟩ : ∃ tot, tot = L - 1 := ⟨_, rfl⟩
  have htoti : (L : Int) - 1 = (tot : Nat) := by omega
  rw [← htot]
  have HTot := Lib.hid htot
  clear htot
  have hmeth : ∀ (x y : Int) (w : World), (method 71 74 (.agg #[.int .i64 x, .int .i64 y]) "Compare").run Try.prog w = .ok (95, .agg #[.int .i64 x, .int .i64 y]) w := fun _ _ _ => by kernel_rfl
  have hnil : ∀ (x y : Int) (w : World), (nilAhead 71 74 (.agg #[.int .i64 x, .int .i64 y]) "Compare").run Try.prog w = .ok (some false) w := fun _ _ _ => by kernel_rfl
  go_enter Try.func59, Try.ntmps59
  go_wp2_with fail
  go_loopw [5, 6] (fun va vb wr => ∃ (a b : Nat), va = .int .i64 a ∧ vb = .int .i64 b ∧ a ≤ b ∧ b ≤ L ∧ (∀ x, x < a → (f x).1 ≤ (h (tot - x)).1) ∧ (∀ x, b ≤ x → x < L → (h (tot - x)).1 < (f x).1) ∧ Ch S0 w wr) (fun va vb _ => (intOf vb).toNat - (intOf va).toNat)
  case atStart => exact ⟨0, L, rfl, rfl, Nat.zero_le _, Nat.le_refl _, fun x h1 => by omega, fun x h1 h2 => by omega, Ch.refl _ _⟩
  case round =>
    obtain ⟨a, b, rfl, rfl, hab, hb, hl, hh, hC⟩ := hrel
    have HC := Lib.hid hC
    have HL := Lib.hid hl
    have HHi := Lib.hid hh
    clear hC hl hh
    by_cases hlt : a < b
    · have hlti : (a : Int) < (b : Nat) := by omega
      obtain ⟨m, hm⟩ : ∃ m, m = (a + b) / 2 := ⟨_, rfl⟩
      have hmi : ((a : Int) + (b : Int)) / 2 = (m : Nat) := by omega
      have hm1 : a ≤ m ∧ m < b := by omega
      obtain ⟨hm1, hm2⟩ := hm1
      obtain ⟨t, ht⟩ : ∃ t, t = tot - m := ⟨_, rfl⟩
      have hti : (tot : Int) - (m : Int) = (t : Nat) := by have := HTot.out; omega
      have htn : t < L := by have := HTot.out; omega
      have HT := Lib.hid ht
      obtain ⟨bA, oA, e, q1⟩ := rd_ev (HA.out.keep0 HC.out) (i := m) (by omega)
      subst e
      obtain ⟨bB, oB, e, q2⟩ := rd_ev (HB.out.keep0 HC.out) (i := t) htn
      subst e
      obtain ⟨k1, t1, e1⟩ : ∃ k t, f m = (k, t) := ⟨(f m).1, (f m).2, rfl⟩
      obtain ⟨k2, t2, e2⟩ : ∃ k u, h t = (k, u) := ⟨(h t).1, (h t).2, rfl⟩
      rw [e1] at q1
      rw [e2] at q2
      have K1 : Hid ((f m).1 = k1) := Lib.hid (by rw [e1])
      have K2 : Hid ((h (tot - m)).1 = k2) := Lib.hid (by rw [← ht, e2])
      unfold en at q1 q2
      simp only at q1 q2
      have hm0 : (0 : Int) ≤ (m : Nat) := by omega
      have hmn : (m : Int) < (L : Nat) := by omega
      have ht0 : (0 : Int) ≤ (t : Nat) := by omega
      have htn' : (t : Int) < (L : Nat) := by omega
      have hwt : IntKind.i64.wrap (t : Int) = (t : Int) := wrap_nat (by omega)
      clear e1 e2 ht hm
      by_cases hle : k1 ≤ k2
      · have hor : ord k1 k2 ≤ 0 := ord_le.2 hle
        have HLe := Lib.hid hle
        clear hle
        go_wp2_with fail
        go_region_held3 (fun w' => w'.cell? ⟨bA, oA + m, none⟩ = some (.iface 74 (.agg #[.int .i64 k1, .int .i64 t1])) ∧ w'.cell? ⟨bB, oB + t, none⟩ = some (.iface 74 (.agg #[.int .i64 k2, .int .i64 t2])))
          (first | ((try dsimp only); (repeat' apply And.intro) <;> assumption) | (go_keep; done))
          (first | (go_simp; change Calls Try.prog 95 #[.agg #[.int .i64 k1, .int .i64 t1], .iface 74 (.agg #[.int .i64 k2, .int .i64 t2])] _ _; refine (compare_any (k1, t1) (k2, t2) _).mono ?_; rintro r w6 ⟨rfl, hC6⟩; have hk := (Ch.refl S0 wr).drew.trans hC6; have p0 := cell_keep hk q1; have p1 := cell_keep hk q2; have HC6 := Lib.hid (HC.out.trans hk); clear hC6 hk))
        go_wp2_with fail
        go_roundw
        case rel =>
          refine ⟨m + 1, b, by go_num, rfl, by omega, hb, fun x x2 => ?_, HHi.out, HC6.out⟩
          have := HAs.out x m (by omega) (by omega) (by omega)
          have := HBs.out (tot - m) (tot - x) (by omega) (by omega) (by have := HTot.out; omega)
          have := K1.out
          have := K2.out
          have := HLe.out
          omega
        case measure => simp [intOf]; omega
      · have hor : ¬ ord k1 k2 ≤ 0 := fun h => hle (ord_le.1 h)
        have HLe := Lib.hid hle
        clear hle
        go_wp2_with fail
        go_region_held3 (fun w' => w'.cell? ⟨bA, oA + m, none⟩ = some (.iface 74 (.agg #[.int .i64 k1, .int .i64 t1])) ∧ w'.cell? ⟨bB, oB + t, none⟩ = some (.iface 74 (.agg #[.int .i64 k2, .int .i64 t2])))
          (first | ((try dsimp only); (repeat' apply And.intro) <;> assumption) | (go_keep; done))
          (first | (go_simp; change Calls Try.prog 95 #[.agg #[.int .i64 k1, .int .i64 t1], .iface 74 (.agg #[.int .i64 k2, .int .i64 t2])] _ _; refine (compare_any (k1, t1) (k2, t2) _).mono ?_; rintro r w6 ⟨rfl, hC6⟩; have hk := (Ch.refl S0 wr).drew.trans hC6; have p0 := cell_keep hk q1; have p1 := cell_keep hk q2; have HC6 := Lib.hid (HC.out.trans hk); clear hC6 hk))
        go_wp2_with fail
        go_roundw
        case rel =>
          refine ⟨a, m, rfl, rfl, by omega, by omega, HL.out, fun x x1 x2 => ?_, HC6.out⟩
          have := HAs.out m x (by omega) x1 x2
          have := HBs.out (tot - x) (tot - m) (by omega) (by omega) (by have := HTot.out; omega)
          have := K1.out
          have := K2.out
          have := HLe.out
          omega
        case measure => simp [intOf]; omega
    · have hin : ¬ (a : Int) < (b : Nat) := by omega
      obtain rfl : a = b := by omega
      go_wp2_with fail
      go_ret
      exact ⟨⟨a, rfl, hb, HL.out, HHi.out⟩, HC.out⟩
end Go.Proofs.Ytbfcnimebdoagaa
