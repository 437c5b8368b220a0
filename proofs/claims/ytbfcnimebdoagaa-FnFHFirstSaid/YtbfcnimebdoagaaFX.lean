/- WALKS: FHRun. -/
import Derived.Test.YtbfcnimebdoagaaFV
import Derived.Test.YtbfcnimebdoagaaFW
import Derived.Deep.RegionHeld3
namespace Go.Proofs.Ytbfcnimebdoagaa
open Go.RowKit
set_option linter.unusedVariables false
set_option linter.unusedSimpArgs false

theorem elHs : EL Try.prog 24 28 4 48 := EL.of (z := .agg #[.int .i64 0, .int .i64 0, .int .i64 0, .slice none 0 0]) Try.underlying24 (by kernel_rfl) rfl (by decide)
theorem elHd : EL Try.prog 29 32 5 40 := EL.of (z := .agg #[.bool false, .int .i64 0, .int .i64 0, .int .i64 0, .bool false]) Try.underlying29 (by kernel_rfl) rfl (by decide)
def hpC (s : Hp) : List Value := [.int .i64 s.op, .int .i64 s.n, .int .i64 s.p, .slice s.A s.len s.cap]
def hdC (d : Hd) : List Value := [.bool d.is, .int .i64 d.e, .int .i64 d.p, .int .i64 d.size, .bool d.empty]
def hpCells (ss : List Hp) : List Value := ss.flatMap hpC
def hdCells (ds : List Hd) : List Value := ds.flatMap hdC
theorem flat_len {α : Type} (f : α → List Value) (k : Nat) (hf : ∀ x, (f x).length = k) : ∀ xs : List α, (xs.flatMap f).length = xs.length * k
  | [] => by simp
  | x :: xs => by
    rw [List.flatMap_cons, List.length_append, hf, flat_len f k hf xs, List.length_cons, Nat.add_mul]
    omega
theorem flat_at {α : Type} (f : α → List Value) (k : Nat) (hf : ∀ x, (f x).length = k) : ∀ (xs : List α) (j : Nat) (x : α) (i : Nat) (v : Value), xs[j]? = some x → (f x)[i]? = some v → (xs.flatMap f)[j * k + i]? = some v
  | [], j, x, i, v, h, _ => by simp at h
  | y :: ys, 0, x, i, v, h, hv => by
    simp at h
    subst h
    rw [List.flatMap_cons, Nat.zero_mul, Nat.zero_add, List.getElem?_append_left (List.getElem?_eq_some_iff.1 hv).1]
    exact hv
  | y :: ys, j + 1, x, i, v, h, hv => by
    have ih := flat_at f k hf ys j x i v (by simpa using h) hv
    rw [List.flatMap_cons, List.getElem?_append_right (by rw [hf, Nat.add_mul]; omega), hf, show (j + 1) * k + i - k = j * k + i by rw [Nat.add_mul]; omega]
    exact ih
theorem hpC_len (ss : List Hp) : (hpCells ss).length = ss.length * 4 := flat_len _ 4 (fun _ => rfl) ss
theorem hdC_len (ds : List Hd) : (hdCells ds).length = ds.length * 5 := flat_len _ 5 (fun _ => rfl) ds
theorem hp_snoc (a : List Hp) (x : Hp) : hpCells (a ++ [x]) = hpCells a ++ hpC x := by simp [hpCells]
theorem hd_snoc (a : List Hd) (x : Hd) : hdCells (a ++ [x]) = hdCells a ++ hdC x := by simp [hdCells]
theorem hp_one (a : List Hp) : ∀ u ∈ hpCells a, u.oneCell' = true := by
  intro u hu
  simp only [hpCells, List.mem_flatMap] at hu
  obtain ⟨x, _, hu⟩ := hu
  simp [hpC] at hu
  rcases hu with rfl | rfl | rfl | rfl <;> rfl
theorem rd_hp {w : World} {A : Option Addr} {a : List Hp} {j : Nat} {x : Hp} (h : Rd w A (hpCells a)) (hj : a[j]? = some x) : ∃ b o, A = some ⟨b, o, none⟩ ∧ w.cell? ⟨b, o + j * 4, none⟩ = some (.int .i64 x.op) ∧ w.cell? ⟨b, o + j * 4 + 1, none⟩ = some (.int .i64 x.n) ∧ w.cell? ⟨b, o + j * 4 + 2, none⟩ = some (.int .i64 x.p) ∧ w.cell? ⟨b, o + j * 4 + 3, none⟩ = some (.slice x.A x.len x.cap) := by
  obtain ⟨b, o, e, h0⟩ := h _ _ (flat_at _ 4 (fun _ => rfl) a j x 0 _ hj rfl)
  obtain ⟨b', o', e', h1⟩ := h _ _ (flat_at _ 4 (fun _ => rfl) a j x 1 _ hj rfl)
  obtain ⟨b'', o'', e'', h2⟩ := h _ _ (flat_at _ 4 (fun _ => rfl) a j x 2 _ hj rfl)
  obtain ⟨b3, o3, e3, h3⟩ := h _ _ (flat_at _ 4 (fun _ => rfl) a j x 3 _ hj rfl)
  rw [e] at e' e'' e3
  cases e'
  cases e''
  cases e3
  exact ⟨b, o, e, h0, h1, h2, h3⟩
theorem rd_hd {w : World} {A : Option Addr} {a : List Hd} {j : Nat} {x : Hd} (h : Rd w A (hdCells a)) (hj : a[j]? = some x) : ∃ b o, A = some ⟨b, o, none⟩ ∧ w.cell? ⟨b, o + j * 5, none⟩ = some (.bool x.is) ∧ w.cell? ⟨b, o + j * 5 + 1, none⟩ = some (.int .i64 x.e) ∧ w.cell? ⟨b, o + j * 5 + 2, none⟩ = some (.int .i64 x.p) ∧ w.cell? ⟨b, o + j * 5 + 3, none⟩ = some (.int .i64 x.size) ∧ w.cell? ⟨b, o + j * 5 + 4, none⟩ = some (.bool x.empty) := by
  obtain ⟨b, o, e, h0⟩ := h _ _ (flat_at _ 5 (fun _ => rfl) a j x 0 _ hj rfl)
  obtain ⟨b', o', e', h1⟩ := h _ _ (flat_at _ 5 (fun _ => rfl) a j x 1 _ hj rfl)
  obtain ⟨b'', o'', e'', h2⟩ := h _ _ (flat_at _ 5 (fun _ => rfl) a j x 2 _ hj rfl)
  obtain ⟨b3, o3, e3, h3⟩ := h _ _ (flat_at _ 5 (fun _ => rfl) a j x 3 _ hj rfl)
  obtain ⟨b4, o4, e4, h4⟩ := h _ _ (flat_at _ 5 (fun _ => rfl) a j x 4 _ hj rfl)
  rw [e] at e' e'' e3 e4
  cases e'
  cases e''
  cases e3
  cases e4
  exact ⟨b, o, e, h0, h1, h2, h3, h4⟩
def HSt (w : World) (s : Hp) : Prop := s.xs.length = s.len ∧ Rd w s.A (iv s.xs) ∧ ∀ b o, s.A = some ⟨b, o, none⟩ → b < w.heap.size
theorem hstep_any (base hh : Nat) (A : List (Option Int)) (cl : Bool) (S : Nat → Prop) (s : Hp) (w : World) (hs : Ses w base hh A cl S) (hb : base ≤ w.heap.size) (ho : HOk cl A s) (h1 : s.xs.length = s.len) (h2 : Rd w s.A (iv s.xs)) (h3 : ∀ b o, s.A = some ⟨b, o, none⟩ → ¬ S b) :
    Calls Try.prog 24 #[.pointer (some ⟨hh, 0, none⟩), hpV s] w fun r w' => HStepX w base hh A cl S s r w' := by
  obtain ⟨op, n, p, Ax, len, cp, xs⟩ := s
  rcases ho with ⟨e, k1, k2⟩ | ⟨e, k1⟩ | ⟨e, k1, k2, i, q, k3, k4, k5⟩ | ⟨e, k1, k2⟩ <;> (have e : op = _ := e; subst e)
  · exact step1 base hh A cl S n p Ax len cp xs w hs hb k1 k2
  · exact step3 base hh A cl S n p Ax len cp xs w hs k1
  · subst k1
    have k3 : n = i := k3
    subst k3
    exact step4 base hh A S i q p Ax len cp xs w hs k4 k5 k2
  · have h1 : xs.length = len := h1
    exact step6 base hh A cl S n p Ax len cp xs w hs hb h1 h2 k2 h3 (by have k1 : A.length + xs.length ≤ 10000 := k1; omega)
theorem wrap_nat9 {t : Nat} (h : t < 9223372036854775808) : IntKind.i64.wrap (t : Int) = (t : Int) := by
  unfold IntKind.wrap
  simp [IntKind.min, IntKind.max, IntKind.bits, IntKind.signed]
  omega
set_option maxRecDepth 100000 in
set_option maxHeartbeats 4000000 in
theorem chs1 (w : World) (z : Nat) (v : Value) : Ch (S1 z) w (w.setCell ⟨z, 3, none⟩ v).drew := ((Ch.refl (S1 z) w).setCell ⟨z, 3, none⟩ (fun _ => rfl) _).drew
theorem chs2 (w : World) (z : Nat) (v u : Value) : Ch (S1 z) w ((w.setCell ⟨z, 3, none⟩ v).setCell ⟨z, 4, none⟩ u).drew := (((Ch.refl (S1 z) w).setCell ⟨z, 3, none⟩ (fun _ => rfl) _).setCell ⟨z, 4, none⟩ (fun _ => rfl) _).drew
structure HRunI (w wr : World) (hh : Nat) (ss : List Hp) (vo : Value) (i : Nat) (ds : List Hd) (A : List (Option Int)) (cl : Bool) (S : Nat → Prop) : Prop where
  ses : Ses wr w.heap.size hh A cl S
  runs : HRuns true (ss.take i) ds [] A cl
  fine : HFine cl (ss.drop i) A
  own : wr.ownsRow w.heap.size 32 5 vo i (hdCells ds)
  ov : ∀ k, vo.ownBlock = some k → ¬ S k
  ch : Ch S0 w wr
theorem hfine_at {cl : Bool} {ss : List Hp} {i : Nat} {s : Hp} {A : List (Option Int)} (h : HFine cl (ss.drop i) A) (hs : ss[i]? = some s) : HOk cl A s ∧ ∀ d A' cl', HDoes cl A s d A' cl' → HFine cl' (ss.drop (i + 1)) A' := by
  obtain ⟨hi, e⟩ := List.getElem?_eq_some_iff.1 hs
  rw [List.drop_eq_getElem_cons hi, e] at h
  exact h
def FS0 : FS := ⟨fun _ => 0, fun _ => false, fun _ => 0, fun _ => 0, fun _ => none, fun _ => none, fun _ => 0⟩
theorem SesF.size {w : World} {base hh hb : Nat} {ve : Value} {E : List (Option Nat)} {N : List Nat} {s : FS} {G : Option Nat → List Nat} {h : Nat → Nat} {mn : Option Nat} {A : List (Option Int)} {cl : Bool} (f : SesF w base hh hb ve E N s G h mn A cl) : N.length = alive A := by
  rw [f.perm.length_eq, ← fm_len s.pr, ← f.pri]
theorem Ses.look {w : World} {base hh : Nat} {A : List (Option Int)} {cl : Bool} {S : Nat → Prop} (f : Ses w base hh A cl S) : ∃ (hb n : Nat) (v0 v1 : Value), Blk w hh #[.pointer (some ⟨hb, 0, none⟩), v1] ∧ Blk w hb #[v0, .int .u64 n] ∧ n = alive A ∧ n < 100000 ∧ S hh ∧ S hb := by
  obtain ⟨hb, ve, E, N, s, G, h, mn, f, rfl⟩ := f
  exact ⟨hb, N.length, _, _, f.hblk, f.heap.blk, f.size, f.heap.few, Or.inl rfl, Or.inr (Or.inl rfl)⟩
def HRunOut (w : World) (ss : List Hp) (N : Nat) (r : Ending) (w' : World) : Prop := ∃ v ds B cl, r = .returned v ∧ w'.ownsRow w.heap.size 32 5 v N (hdCells ds) ∧ HRuns true ss ds [] B cl
set_option maxRecDepth 100000 in
set_option maxHeartbeats 8000000 in
theorem hrun_any (N cA : Nat) (A : Option Addr) (ss : List Hp) (w : World) (hN : ss.length = N) (hN2 : N ≤ 10000) (hA : Rd w A (hpCells ss)) (hs : ∀ s ∈ ss, HSt w s) (hf : HFine true ss []) :
    Calls Try.prog 11 #[.slice A N cA] w fun r w' => HRunOut w ss N r w' ∧ Ch S0 w w' := by
  have HN := Lib.hid hN
  have HA := Lib.hid hA
  have HS := Lib.hid hs
  have HF := Lib.hid hf
  clear hN hA hs hf
  go_enter Try.func11, Try.ntmps11
  go_wp2_with (go_at_call 23; refine (fresh_any _).mono ?_; rintro r w1 ⟨rfl, hC1⟩; have HC1 := Lib.hid hC1; clear hC1)
  obtain ⟨W2, hW2⟩ : ∃ W, W = (w1.alloc (.cells #[.pointer none, .int .u64 0] 55)).alloc (.cells #[.pointer (some ⟨w1.heap.size, 0, none⟩), .slice none 0 0] 61) := ⟨_, rfl⟩
  rw [← hW2]
  have hI : HRunI w W2 (w1.heap.size + 1) ss (.slice none 0 0) 0 [] [] true (SetS (w1.heap.size + 1) w1.heap.size (.slice none 0 0) []) := by
    have hc1 := HC1.out.size
    have hB1 : Blk W2 w1.heap.size #[op none, .int .u64 (([] : List Nat).length : Nat)] := by rw [hW2]; exact (Blk.new w1 _ _).alloc _
    have hB2 : Blk W2 (w1.heap.size + 1) #[.pointer (some ⟨w1.heap.size, 0, none⟩), .slice none 0 0] := by
      have := Blk.new (w1.alloc (.cells #[.pointer none, .int .u64 0] 55)) #[.pointer (some ⟨w1.heap.size, 0, none⟩), .slice none 0 0] 61
      rw [World.size_alloc] at this
      rw [hW2]
      exact this
    refine ⟨⟨w1.heap.size, .slice none 0 0, [], [], FS0, noG, fun _ => 0, none, ⟨hB2, World.ownsRow_nil _ _ _ _, ⟨hB1, fun a ha => (by cases ha), fun a ha => (by cases ha), HP0 _ _, fun e => (by cases e), by simp⟩, List.Perm.nil, rfl, fun _ a ha => (by cases ha), fun e => (by cases e), by omega, fun k e => (by cases e), ⟨by omega, by omega, fun a ha => (by cases ha)⟩, by simp⟩, rfl⟩, ⟨rfl, rfl⟩, HF.out, World.ownsRow_nil _ _ _ _, fun k e => (by cases e), HC1.out.trans (by rw [hW2]; exact ((Ch.refl _ _).alloc _).alloc _)⟩
  obtain ⟨hh, hhe⟩ : ∃ h, h = w1.heap.size + 1 := ⟨_, rfl⟩
  rw [← hhe] at hI ⊢
  have HI := Lib.hid hI
  clear hI hhe hW2
  go_loopw [5, 14] (fun vo vi wr => ∃ (i : Nat) (ds : List Hd) (B : List (Option Int)) (cl : Bool) (S : Nat → Prop), i ≤ N ∧ vi = .int .i64 i ∧ HRunI w wr hh ss vo i ds B cl S) (fun _ vi _ => N - (intOf vi).toNat)
  case atStart => exact ⟨0, [], [], true, _, Nat.zero_le _, rfl, HI.out⟩
  case round =>
    obtain ⟨i, ds, B, cl, S, hi, rfl, hR⟩ := hrel
    have HR := Lib.hid hR
    clear hR HI
    by_cases hlt : i < N
    · have hlti : (i : Int) < (N : Nat) := by omega
      have hi0 : (0 : Int) ≤ (i : Nat) := by omega
      obtain ⟨s, hs⟩ : ∃ s, ss[i]? = some s := ⟨ss[i]'(by have := HN.out; omega), by simp [HN.out, hlt]⟩
      obtain ⟨b, o, e, c0, c1, c2, c3⟩ := rd_hp (HA.out.keep0 HR.out.ch) hs
      subst e
      have hsm : s ∈ ss := List.mem_of_getElem? hs
      have hfi := hfine_at HR.out.fine hs
      have hW : Ch S0 wr (wr.alloc (.cells #[.int .i64 s.op, .int .i64 s.n, .int .i64 s.p, .slice s.A s.len s.cap] 28)) := (Ch.refl S0 wr).alloc _
      have hsw := HS.out s hsm
      have hst := hstep_any w.heap.size hh B cl S s _ (HR.out.ses.keep hW (fun _ _ h => h)) (Nat.le_trans HR.out.ch.size hW.size) hfi.1 hsw.1 (hsw.2.1.keep0 (HR.out.ch.trans hW)) (fun b o e h => by
        have h1 := hsw.2.2 b o e
        have h2 := (HR.out.ses.lt h).1
        omega)
      have HSt := Lib.hid hst
      have HW := Lib.hid hW
      have HFi := Lib.hid hfi.2
      have HSs := Lib.hid hs
      unfold hpV at HSt
      clear hs hsm hfi hW hst hsw
      go_wp2_with fail
      refine HSt.out.mono ?_
      rintro r w4 ⟨is, e, p, A', cl', S', rfl, hdo, hses, hsub, hch⟩
      obtain ⟨hb, n, v0, v1, hB1, hB2, hn, hn9, hSh, hSb⟩ := hses.look
      have hs4 := hch.size
      obtain ⟨W5, hW5⟩ : ∃ W, W = w4.alloc (.cells #[.bool is, .int .i64 e, .int .i64 p, .int .i64 0, .bool false] 32) := ⟨_, rfl⟩
      have hC5 : Ch S0 w4 W5 := by rw [hW5]; exact (Ch.refl _ _).alloc _
      have hO5 : Blk W5 w4.heap.size #[.bool is, .int .i64 e, .int .i64 p, .int .i64 0, .bool false] := by rw [hW5]; exact Blk.new _ _ _
      have HSes := Lib.hid hses
      have HDo := Lib.hid hdo
      have HSub := Lib.hid hsub
      have HCh := Lib.hid hch
      have HW5 := Lib.hid hW5
      clear hses hdo hsub hch hW5
      go_upto_region 8 with fail
      rw [← HW5.out]
      obtain ⟨ob, hob⟩ : ∃ o, o = w4.heap.size := ⟨_, rfl⟩
      rw [← hob] at hO5 ⊢
      have b1 := (hB1.keep hC5 (fun h => h)).drew
      have b2 := (hB2.keep hC5 (fun h => h)).drew
      have z3 := hO5.drew.cell 3
      have z4 := hO5.drew.cell 4
      have y3 := hO5.drew.free 3
      have y4 := hO5.drew.free 4
      have k0 := b1.cell 0
      simp only [List.getElem?_toArray, List.getElem?_cons_zero, List.getElem?_cons_succ] at z3 z4 k0
      have hl1 := hB1.lt
      have hl2 := hB2.lt
      have hne1 : hh ≠ ob := by omega
      have HKp : Hid (∀ w', Ch (S1 ob) W5 w' → w'.cell? ⟨hh, 0, none⟩ = some (.pointer (some ⟨hb, 0, none⟩))) := Lib.hid (fun w' h => by
        have := ((hB1.keep hC5 (fun h => h)).keep h (fun e => hne1 e)).cell 0
        simpa using this)
      have hsz := size_any hb n v0 W5.drew b2
      have hem := empty_any hb n v0 W5.drew b2
      obtain ⟨ee, hee⟩ : ∃ b, b = decide (n = 0) := ⟨_, rfl⟩
      rw [← hee] at hem
      have hn0 : (0 : Int) ≤ (n : Nat) := by omega
      have hn8 : (n : Int) ≤ 99999 := by omega
      have hwn : IntKind.i64.wrap (n : Nat) = (n : Nat) := wrap_nat9 (t := n) (by omega)
      have hO5b : Blk (W5.setCell ⟨ob, 3, none⟩ (.int .i64 (n : Nat))).drew ob _ := hO5.set 3 (.int .i64 (n : Nat))
      simp only [List.setIfInBounds_toArray, List.set_cons_zero, List.set_cons_succ] at hO5b
      have z4b := hO5b.cell 4
      have y4b := hO5b.free 4
      simp only [List.getElem?_toArray, List.getElem?_cons_zero, List.getElem?_cons_succ] at z4b
      have hO6 := (hO5.drew.set 3 (.int .i64 (n : Nat))).set 4 (.bool ee)
      simp only [List.setIfInBounds_toArray, List.set_cons_zero, List.set_cons_succ] at hO6
      have HO6 := Lib.hid hO6
      have HSz := Lib.hid hsz
      have HEm := Lib.hid hem
      have HEe := Lib.hid hee
      have HNn := Lib.hid hn
      have HC5 := Lib.hid hC5
      have HOb := Lib.hid hob
      have HSh := Lib.hid hSh
      clear hsz hem hee hn hC5 hob hSh hSb hB1 hB2 b1 b2 hO5 hO5b hO6 hn9 hl1 hl2 hs4 c0 c1 c2 c3
      go_region_held3 (fun w' => w'.cell? ⟨hh, 0, none⟩ = some (.pointer (some ⟨hb, 0, none⟩)))
        (first
          | (with_reducible exact HKp.out _ (Ch.refl _ _))
          | (with_reducible exact HKp.out _ (Ch.refl _ _).drew)
          | (with_reducible exact HKp.out _ (chs1 _ _ _))
          | (with_reducible exact HKp.out _ (chs2 _ _ _ _))
          | ((try dsimp only); assumption))
        (first
          | (go_at_call 25
             (with_reducible refine HSz.out.mono ?_)
             rintro r wx ⟨rfl, e⟩
             rw [e]
             clear e)
          | (go_at_call 26
             (with_reducible refine HEm.out.mono ?_)
             rintro r wx ⟨rfl, e⟩
             rw [e]
             clear e))
      have hO6 : Blk ((W5.setCell ⟨ob, 3, none⟩ (.int .i64 (n : Nat))).setCell ⟨ob, 4, none⟩ (.bool ee)).drew ob #[.bool is, .int .i64 e, .int .i64 p, .int .i64 (n : Nat), .bool ee] := HO6.out
      have hC6 := chs2 W5 ob (.int .i64 (n : Nat)) (.bool ee)
      obtain ⟨W6, hW6⟩ : ∃ W, W = ((W5.setCell ⟨ob, 3, none⟩ (.int .i64 (n : Nat))).setCell ⟨ob, 4, none⟩ (.bool ee)).drew := ⟨_, rfl⟩
      rw [← hW6] at hO6 hC6 ⊢
      have x0 := hO6.cell 0
      have x1 := hO6.cell 1
      have x2 := hO6.cell 2
      have x3 := hO6.cell 3
      have x4 := hO6.cell 4
      simp only [List.getElem?_toArray, List.getElem?_cons_zero, List.getElem?_cons_succ] at x0 x1 x2 x3 x4
      have hw4 := HCh.out.size
      have hwr := HR.out.ch.size
      have hO9 : W6.ownsRow w.heap.size 32 5 u5 i (hdCells ds) := own_keepS (own_keepS (own_keepS (own_keepS HR.out.own HW.out (fun _ _ h => h)) HCh.out (fun k hk e => HR.out.ov k hk e)) HC5.out (fun _ _ h => h)) hC6 (fun k hk e => by
        have e : k = ob := e
        have h1 := (own_lt HR.out.own k hk).2
        have h2 := HOb.out
        have h3 := HW.out.size
        omega)
      have hb9 : w.heap.size ≤ W6.heap.size := by
        have h1 := HW.out.size
        have h2 := HC5.out.size
        have h3 := hC6.size
        omega
      have HO9 := Lib.hid hO9
      have HB9 := Lib.hid hb9
      have HC6 := Lib.hid hC6
      clear hW6 hO6 hC6 hw4 hwr hO9 hb9 z3 z4 y3 y4 z4b y4b k0 hwn
      go_step
      go_wp2_with (at_builtin; go_loud (refine app_own elHd rfl (.tmp 34) (.tmp 36) rfl w.heap.size i u5 (hdCells ds) rfl HO9.out (hdC ⟨is, e, p, n, ee⟩) rfl (by simp [hdC, Value.oneCell']) _ rfl rfl (by unfold maxLen; omega) (by omega) HB9.out ?_); intro v' w5 hown5 hc5 hb5; have HOw := Lib.hid hown5; have HCw := Lib.hid hc5; have HBw := Lib.hid hb5; clear hown5 hc5 hb5)
      go_roundw
      case rel =>
        have hX : HDoes cl B s ⟨is, e, p, n, ee⟩ A' cl' := ⟨HDo.out, by show (n : Int) = alive A'; rw [HNn.out], by show ee = _; rw [HEe.out, HNn.out]⟩
        have hw4 := HCh.out.size
        have hwr := HR.out.ch.size
        have hW := HW.out.size
        have h5 := HC5.out.size
        have h6 := HC6.out.size
        have hob := HOb.out
        have ho0 := own_lt HR.out.own
        have hS'lt := fun k (hk : S' k) => HSes.out.lt hk
        have hSlt := fun k (hk : S k) => HR.out.ses.lt hk
        have hov : ∀ k, u5.ownBlock = some k → ¬ S' k := fun k hk h => by
          rcases HSub.out k h with h1 | h1
          · exact HR.out.ov k hk h1
          · have := (ho0 k hk).2; omega
        have hses5 := (HSes.out.keep HC5.out (fun _ _ h => h)).keep HC6.out (fun k hk e => by
          have e : k = ob := e
          have := (hS'lt k hk).2
          omega)
        refine ⟨i + 1, ds ++ [⟨is, e, p, n, ee⟩], A', cl', S', by omega, by go_num, hses5.keep HCw.out (fun k hk e => hov k e hk), ?_, HFi.out _ A' cl' hX, by rw [hd_snoc]; exact HOw.out, fun k hk h => ?_, ?_⟩
        · rw [List.take_add_one, HSs.out]
          exact HR.out.runs.snoc hX
        · rcases HBw.out with e1 | e1
          · rw [e1] at hk; exact hov k hk h
          · rw [e1] at hk
            cases hk
            have := (hS'lt _ h).2
            omega
        · have c1 := (HR.out.ch.trans HW.out).trans' HCh.out (fun j hj h => absurd (hSlt j h).1 (by omega))
          have c2 := (c1.trans HC5.out).trans' HC6.out (fun j hj h => by have h : j = ob := h; omega)
          exact c2.trans' HCw.out (fun j hj h => absurd (ho0 j h).1 (by omega))
      case measure => simp [intOf]; omega
    · have hin : ¬ (i : Int) < (N : Nat) := by omega
      have hie : i = N := by omega
      go_wp2_with fail
      go_ret
      have h1 := HR.out.runs
      rw [hie, ← HN.out, List.take_length] at h1
      exact ⟨⟨_, ds, B, cl, rfl, by rw [← hie]; exact HR.out.own, h1⟩, HR.out.ch⟩
end Go.Proofs.Ytbfcnimebdoagaa
