/- WALKS: what was returned is said. -/
import Derived.Test.YtlppnbmaedgodaaN1
namespace Go.Proofs.Ytlppnbmaedgodaa
open Go.RowKit
set_option linter.unusedVariables false
set_option linter.unusedSimpArgs false

/-- What is said of answers, as cells. -/
def sE (p : Int × Option Int) : Int × Int := match p.2 with | none => (0, 0) | some v => (p.1, v)
def sc (an : List (Int × Option Int)) : List Value := ec (an.map sE)
def hc (an : List (Int × Option Int)) : List Value := an.map fun p => .bool p.2.isSome
theorem sc_snoc (an : List (Int × Option Int)) (p : Int × Option Int) : sc (an ++ [p]) = sc an ++ [.int .i64 (sE p).1, .int .i64 (sE p).2] := by simp [sc, ec_snoc]
theorem hc_snoc (an : List (Int × Option Int)) (p : Int × Option Int) : hc (an ++ [p]) = hc an ++ [.bool p.2.isSome] := by simp [hc]
theorem av_at {an : List (Int × Option Int)} {i : Nat} {p : Int × Option Int} (h : an[i]? = some p) : (av an)[i]? = some (oldE p.1 p.2) := by simp [av, h]
def SdL (w : World) (an : List (Int × Option Int)) (n m B : Nat) (vi : Value) (wr : World) : Prop :=
  ∃ (i : Nat) (v1 v2 : Value), i ≤ n ∧ vi = .int .i64 i ∧ Blk wr B #[.int .i64 m, v1, v2] ∧ wr.ownsRow (B + 1) 38 2 v1 i (sc (an.take i)) ∧ wr.ownsRow (B + 1) 4 1 v2 i (hc (an.take i)) ∧ (∀ g, v1.ownBlock = some g → v2.ownBlock ≠ some g) ∧ Blk wr w.heap.size #[.int .i64 0, .slice none 0 0, .slice none 0 0] ∧ Ch S0 w wr
/-- What avSaid hands back. -/
def SaidR (w : World) (m n : Nat) (an : List (Int × Option Int)) (r : Ending) (w' : World) : Prop :=
  ∃ A1 c1 A2 c2, r = .returned (.agg #[.int .i64 m, .slice A1 n c1, .slice A2 n c2]) ∧ Rd w' A1 (sc an) ∧ Rd w' A2 (hc an) ∧ (∀ b o, A1 = some ⟨b, o, none⟩ → w.heap.size ≤ b ∧ b < w'.heap.size) ∧ (∀ b o, A2 = some ⟨b, o, none⟩ → w.heap.size ≤ b ∧ b < w'.heap.size) ∧ Ch S0 w w'
/-- On the way through two appends: the variable B as it was, the two rows. -/
structure S6 (w0 : World) (B m i X E : Nat) (x y : Int) (V1 V2 u1 u2 : Value) (n1 n2 : Nat) (xs1 xs2 : List Value) (w : World) : Prop where
  blk : Blk w B #[.int .i64 m, V1, V2]
  o1 : w.ownsRow (B + 1) 38 2 u1 n1 xs1
  o2 : w.ownsRow (B + 1) 4 1 u2 n2 xs2
  ne : ∀ g, u1.ownBlock = some g → u2.ownBlock ≠ some g
  ch : Ch S0 w0 w
  sz : X ≤ w.heap.size
  hB : w0.heap.size < B
  ob : Blk w w0.heap.size #[.int .i64 0, .slice none 0 0, .slice none 0 0]
  hX : B + 1 ≤ X
  eb : Blk w E #[.int .i64 x, .int .i64 y]
  e1 : u1.ownBlock ≠ some E
  e2 : u2.ownBlock ≠ some E
  hE : E < X
theorem S6.alloc {w0 : World} {B m i X E : Nat} {x y : Int} {V1 V2 u1 u2 : Value} {n1 n2 : Nat} {xs1 xs2 : List Value} {w : World} (s : S6 w0 B m i X E x y V1 V2 u1 u2 n1 n2 xs1 xs2 w) (o : Obj) : S6 w0 B m i X E x y V1 V2 u1 u2 n1 n2 xs1 xs2 (w.alloc o) :=
  ⟨s.blk.alloc o, own_keep0 s.o1 ((Ch.refl S0 w).alloc o), own_keep0 s.o2 ((Ch.refl S0 w).alloc o), s.ne, s.ch.alloc o, by rw [World.size_alloc]; have := s.sz; omega, s.hB, s.ob.alloc o, s.hX, s.eb.alloc o, s.e1, s.e2, s.hE⟩
theorem S6.app1 {w0 : World} {B m i X E : Nat} {x y : Int} {V1 V2 u1 u2 v' : Value} {n1 n2 : Nat} {xs1 xs2 ys : List Value} {w w' : World} (s : S6 w0 B m i X E x y V1 V2 u1 u2 n1 n2 xs1 xs2 w) (hO : w'.ownsRow (B + 1) 38 2 v' (n1 + 1) ys) (hC : Ch (fun k => u1.ownBlock = some k) w w') (hb : v'.ownBlock = u1.ownBlock ∨ v'.ownBlock = some w.heap.size) : S6 w0 B m i X E x y V1 V2 v' u2 (n1 + 1) n2 ys xs2 w' := by
  have hl : ∀ g, u1.ownBlock = some g → B + 1 ≤ g := fun g hg => (own_lt s.o1 g hg).1
  refine ⟨s.blk.keep hC (fun e => by have := hl _ e; omega), hO, own_keepS s.o2 hC (fun g hg e => s.ne g e hg), fun g hg e => ?_, s.ch.trans' hC (fun j hj e => by have := hl _ e; have := s.hB; omega), Nat.le_trans s.sz hC.size, s.hB, s.ob.keep hC (fun e => by have := hl _ e; have := s.hB; omega), s.hX, s.eb.keep hC s.e1, ?_, s.e2, s.hE⟩
  rotate_left
  · rcases hb with hb | hb
    · rw [hb]; exact s.e1
    · rw [hb]; intro e; have := s.hE; have := s.sz; have := Option.some.inj e; omega
  rcases hb with hb | hb
  · exact s.ne g (hb ▸ hg) e
  · rw [hb] at hg
    cases hg
    exact absurd (own_lt s.o2 _ e).2 (Nat.lt_irrefl _)
theorem S6.app2 {w0 : World} {B m i X E : Nat} {x y : Int} {V1 V2 u1 u2 v' : Value} {n1 n2 : Nat} {xs1 xs2 ys : List Value} {w w' : World} (s : S6 w0 B m i X E x y V1 V2 u1 u2 n1 n2 xs1 xs2 w) (hO : w'.ownsRow (B + 1) 4 1 v' (n2 + 1) ys) (hC : Ch (fun k => u2.ownBlock = some k) w w') (hb : v'.ownBlock = u2.ownBlock ∨ v'.ownBlock = some w.heap.size) : S6 w0 B m i X E x y V1 V2 u1 v' n1 (n2 + 1) xs1 ys w' := by
  have hl : ∀ g, u2.ownBlock = some g → B + 1 ≤ g := fun g hg => (own_lt s.o2 g hg).1
  refine ⟨s.blk.keep hC (fun e => by have := hl _ e; omega), own_keepS s.o1 hC (fun g hg e => s.ne g hg e), hO, fun g hg e => ?_, s.ch.trans' hC (fun j hj e => by have := hl _ e; have := s.hB; omega), Nat.le_trans s.sz hC.size, s.hB, s.ob.keep hC (fun e => by have := hl _ e; have := s.hB; omega), s.hX, s.eb.keep hC s.e2, s.e1, ?_, s.hE⟩
  rotate_left
  · rcases hb with hb | hb
    · rw [hb]; exact s.e2
    · rw [hb]; intro e; have := s.hE; have := s.sz; have := Option.some.inj e; omega
  rcases hb with hb | hb
  · exact s.ne g hg (hb ▸ e)
  · rw [hb] at e
    cases e
    exact absurd (own_lt s.o1 _ hg).2 (Nat.lt_irrefl _)
theorem S6.lt1 {w0 : World} {B m i X E : Nat} {x y : Int} {V1 V2 u1 u2 : Value} {n1 n2 : Nat} {xs1 xs2 : List Value} {w : World} (s : S6 w0 B m i X E x y V1 V2 u1 u2 n1 n2 xs1 xs2 w) {g : Nat} (hg : u1.ownBlock = some g) : g < w.heap.size := (own_lt s.o1 g hg).2
theorem S6.lt2 {w0 : World} {B m i X E : Nat} {x y : Int} {V1 V2 u1 u2 : Value} {n1 n2 : Nat} {xs1 xs2 : List Value} {w : World} (s : S6 w0 B m i X E x y V1 V2 u1 u2 n1 n2 xs1 xs2 w) {g : Nat} (hg : u2.ownBlock = some g) : g < w.heap.size := (own_lt s.o2 g hg).2
theorem Rd.past {w w' : World} {v : Value} {q : Nat} {xs : List Value} (h : Rd w (some ⟨q, 0, none⟩) xs) (hc : Ch (fun k => v.ownBlock = some k) w w') (hX : v.ownBlock ≠ some q) : Rd w' (some ⟨q, 0, none⟩) xs :=
  h.keep hc (fun b o e g => by cases e; exact hX g)
theorem not_own {v : Value} {X q : Nat} (h : ∀ g, v.ownBlock = some g → g < X) (hq : X ≤ q) : v.ownBlock ≠ some q := fun e => by have := h q e; omega
/-- The end of a round. -/
theorem S6.fin {w0 : World} {B m i X n E : Nat} {x y : Int} {an : List (Int × Option Int)} {p : Int × Option Int} {V1 V2 u1 u2 : Value} {w : World} (s : S6 w0 B m i X E x y V1 V2 u1 u2 (i + 1) (i + 1) (sc (an.take i) ++ [.int .i64 (sE p).1, .int .i64 (sE p).2]) (hc (an.take i) ++ [.bool p.2.isSome]) w) (hx : an[i]? = some p) (hi : i + 1 ≤ n) : SdL w0 an n m B (.int .i64 ((i + 1 : Nat) : Int)) ((w.setCell ⟨B, 1, none⟩ u1).setCell ⟨B, 2, none⟩ u2) := by
  have hC : Ch (S1 B) w ((w.setCell ⟨B, 1, none⟩ u1).setCell ⟨B, 2, none⟩ u2) := Ch.setCell (S := S1 B) (Ch.setCell (S := S1 B) (Ch.refl _ w) ⟨B, 1, none⟩ (fun _ => rfl) _) ⟨B, 2, none⟩ (fun _ => rfl) _
  have n1 : ∀ g, u1.ownBlock = some g → ¬ S1 B g := fun g hg e => by have e : g = B := e; have := (own_lt s.o1 g hg).1; omega
  have n2 : ∀ g, u2.ownBlock = some g → ¬ S1 B g := fun g hg e => by have e : g = B := e; have := (own_lt s.o2 g hg).1; omega
  refine ⟨i + 1, u1, u2, hi, rfl, ?_, ?_, ?_, s.ne, s.ob.keep hC (fun e => by have e : w0.heap.size = B := e; have := s.hB; omega), s.ch.trans' hC (fun j hj e => by have e : j = B := e; have := s.hB; omega)⟩
  · have := (s.blk.set 1 u1).set 2 u2
    simpa using this
  · have := own_keepS s.o1 hC n1
    rw [take_one hx, sc_snoc]; exact this
  · have := own_keepS s.o2 hC n2
    rw [take_one hx, hc_snoc]; exact this
theorem S6.fin9 {w0 : World} {B m i X n E : Nat} {x y : Int} {an : List (Int × Option Int)} {p : Int × Option Int} {EK EV : Int} {EB : Bool} {V1 V2 u1 u2 : Value} {w : World} (s : S6 w0 B m i X E x y V1 V2 u1 u2 (i + 1) (i + 1) (sc (an.take i) ++ [.int .i64 EK, .int .i64 EV]) (hc (an.take i) ++ [.bool EB]) w) (hx : an[i]? = some p) (hi : i + 1 ≤ n) (h1 : (sE p).1 = EK) (h2 : (sE p).2 = EV) (h3 : p.2.isSome = EB) : SdL w0 an n m B (.int .i64 ((i + 1 : Nat) : Int)) ((w.setCell ⟨B, 1, none⟩ u1).setCell ⟨B, 2, none⟩ u2) := by
  subst h1 h2 h3
  exact s.fin hx hi
theorem ta_none (w : World) : (Instr.typeAssert .nilIface 66 73 true).run Try.prog w = .ok (.tuple #[.agg #[.int .i64 0, .int .i64 0], .bool false]) w := by kernel_rfl
theorem ta_some (k v : Int) (w : World) : (Instr.typeAssert (en k v) 66 73 true).run Try.prog w = .ok (.tuple #[.agg #[.int .i64 k, .int .i64 v], .bool true]) w := by
  unfold en
  kernel_rfl
theorem S6.cells0 {w0 : World} {B m i X E : Nat} {x y : Int} {V1 V2 u1 u2 : Value} {n1 n2 : Nat} {xs1 xs2 : List Value} {w : World} (s : S6 w0 B m i X E x y V1 V2 u1 u2 n1 n2 xs1 xs2 w) : w.cell? ⟨B, 1, none⟩ = some V1 ∧ w.cell? ⟨B, 2, none⟩ = some V2 ∧ w.cell? ⟨E, 0, none⟩ = some (.int .i64 x) ∧ w.cell? ⟨E, 1, none⟩ = some (.int .i64 y) := ⟨s.blk.cell 1, s.blk.cell 2, s.eb.cell 0, s.eb.cell 1⟩
theorem S6.cells {w0 : World} {B m i X E : Nat} {x y : Int} {V1 V2 u1 u2 : Value} {n1 n2 : Nat} {xs1 xs2 : List Value} {w : World} (s : S6 w0 B m i X E x y V1 V2 u1 u2 n1 n2 xs1 xs2 w) : w.cell? ⟨B, 1, none⟩ = some V1 ∧ w.frozen? ⟨B, 1, none⟩ = false ∧ (w.setCell ⟨B, 1, none⟩ u1).cell? ⟨B, 2, none⟩ = some V2 ∧ (w.setCell ⟨B, 1, none⟩ u1).frozen? ⟨B, 2, none⟩ = false :=
  ⟨s.blk.cell 1, s.blk.free 1, by have := (s.blk.set 1 u1).cell 2; simpa using this, (s.blk.set 1 u1).free 2⟩
set_option maxRecDepth 100000 in
set_option maxHeartbeats 8000000 in
theorem avSaid_any (cp : Nat) (t : T) (A : Option Addr) (n c : Nat) (an : List (Int × Option Int)) (w : World) (h : Imm w cp t) (hl : an.length = n) (hn : n ≤ 100000) (hA : Rd w A (av an)) :
    Calls Try.prog 25 #[.pointer (some ⟨cp, 0, none⟩), .slice A n c] w fun r w' => SaidR w t.toL.length n an r w' := by
  obtain ⟨m, hm⟩ : ∃ m, t.toL.length = m := ⟨_, rfl⟩
  have HM := Lib.hid hm
  have HI := Lib.hid h
  have HL := Lib.hid hl
  have HA := Lib.hid hA
  have hm9 : m ≤ 100000 := by rw [← hm]; exact h.few
  rw [hm]
  clear h hl hA hm
  go_enter Try.func25, Try.ntmps25
  go_wp2_with (go_at_call 31; refine (len_any cp t _ (HI.out.keep ((Ch.refl S0 w).alloc _) (fun h => h) (fun _ _ h => h))).mono ?_; rw [HM.out]; rintro r w1 ⟨rfl, e⟩; rw [e]; clear e)
  have hB := Blk.new (w.alloc (.cells #[.int .i64 0, .slice none 0 0, .slice none 0 0] 31)) #[.int .i64 m, .slice none 0 0, .slice none 0 0] 31
  have hB0 := (Blk.new w #[.int .i64 0, .slice none 0 0, .slice none 0 0] 31).alloc (.cells #[.int .i64 m, .slice none 0 0, .slice none 0 0] 31)
  rw [World.size_alloc] at hB
  obtain ⟨W1, hW1⟩ : ∃ W, W = (w.alloc (.cells #[.int .i64 0, .slice none 0 0, .slice none 0 0] 31)).alloc (.cells #[.int .i64 m, .slice none 0 0, .slice none 0 0] 31) := ⟨_, rfl⟩
  have hC1 : Ch S0 w W1 := by rw [hW1]; exact ((Ch.refl S0 w).alloc _).alloc _
  have hs1 : W1.heap.size = w.heap.size + 2 := by rw [hW1, World.size_alloc, World.size_alloc]
  rw [← hW1] at hB hB0 ⊢
  obtain ⟨B, hBB⟩ : ∃ B, w.heap.size + 1 = B := ⟨_, rfl⟩
  rw [hBB] at hB ⊢
  have HBB := Lib.hid hBB
  have HS : Hid (SdL w an n m B (.int .i64 0) W1) := Lib.hid ⟨0, _, _, by omega, rfl, hB, World.ownsRow_nil _ _ _ _, World.ownsRow_nil _ _ _ _, fun g hg => (by cases hg), hB0, hC1⟩
  have HW := Lib.hid (show Blk W1 w.heap.size _ from hB0)
  clear hW1 hC1 hs1 hB hB0 hBB
  go_loopw [16] (fun vi wr => SdL w an n m B vi wr) (fun vi _ => n - (intOf vi).toNat)
  case atStart => exact HS.out
  case round =>
    obtain ⟨i, v1, v2, hi, rfl, hB, hO1, hO2, hne, hob, hC⟩ := hrel
    have HOb := Lib.hid hob
    have HBl := Lib.hid hB
    have HO1 := Lib.hid hO1
    have HO2 := Lib.hid hO2
    have HNe := Lib.hid hne
    have HC := Lib.hid hC
    clear hB hO1 hO2 hne hob hC HS
    by_cases hlt : i < n
    · have hlti : (i : Int) < (n : Nat) := by omega
      have hi0 : (0 : Int) ≤ (i : Nat) := by omega
      obtain ⟨⟨k, ov⟩, hx⟩ : ∃ x, an[i]? = some x := ⟨an[i]'(by have := HL.out; omega), by simp [HL.out, hlt]⟩
      obtain ⟨q, o, e, c0⟩ := (HA.out.keep0 HC.out).at (av_at hx)
      subst e
      have HX := Lib.hid hx
      clear hx
      have hBi := HBB.out
      obtain ⟨A1, k1, rfl, _, _, hg1, _, _⟩ := own_rd HO1.out
      obtain ⟨A2, k2, rfl, _, _, hg2, _, _⟩ := own_rd HO2.out
      have HL1 := Lib.hid (fun g (hg : (Value.slice A1 i k1).ownBlock = some g) => (own_lt HO1.out g hg).2)
      have HL2 := Lib.hid (fun g (hg : (Value.slice A2 i k2).ownBlock = some g) => (own_lt HO2.out g hg).2)
      have Hi1 : Hid (i + 1 ≤ n) := Lib.hid (by omega)
      have hwB : w.heap.size < B := by omega
      have HwB := Lib.hid hwB
      have HM : Hid (i + 1 ≤ maxLen) := Lib.hid (by unfold maxLen; omega)
      have HM1 : Hid ((i + 1) * 16 ≤ 140737488355328) := Lib.hid (by omega)
      have HM2 : Hid ((i + 1) * 1 ≤ 140737488355328) := Lib.hid (by omega)
      clear hg1 hg2 hBi hwB
      obtain ⟨xv, hxv⟩ : ∃ x, oldE k ov = x := ⟨_, rfl⟩
      obtain ⟨EK, hEK⟩ : ∃ x, (sE (k, ov)).1 = x := ⟨_, rfl⟩
      obtain ⟨EV, hEV⟩ : ∃ x, (sE (k, ov)).2 = x := ⟨_, rfl⟩
      obtain ⟨EB, hEB⟩ : ∃ x, (k, ov).2.isSome = x := ⟨_, rfl⟩
      have hty : ∀ w, (Instr.typeAssert xv 66 73 true).run Try.prog w = .ok (.tuple #[.agg #[.int .i64 EK, .int .i64 EV], .bool EB]) w := fun w => by
        rw [← hxv, ← hEK, ← hEV, ← hEB]
        cases ov with
        | none => exact ta_none w
        | some v => exact ta_some k v w
      rw [hxv] at c0
      have HEK := Lib.hid hEK
      have HEV := Lib.hid hEV
      have HEB := Lib.hid hEB
      clear hxv hEK hEV hEB
      go_wp2_with fail
      have hE := Blk.new wr #[.int .i64 EK, .int .i64 EV] 73
      have e0 := hE.cell 0
      have e1 := hE.cell 1
      have hB6 := HBl.out.alloc (.cells #[.int .i64 EK, .int .i64 EV] 73)
      have b1 := hB6.cell 1
      have b2 := hB6.cell 2
      simp only [List.getElem?_toArray, List.getElem?_cons_zero, List.getElem?_cons_succ] at e0 e1 b1 b2
      obtain ⟨W6, hW6⟩ : ∃ W, W = wr.alloc (.cells #[.int .i64 EK, .int .i64 EV] 73) := ⟨_, rfl⟩
      have H0 : Hid (S6 w B m i W6.heap.size wr.heap.size EK EV (.slice A1 i k1) (.slice A2 i k2) (.slice A1 i k1) (.slice A2 i k2) i i (sc (an.take i)) (hc (an.take i)) W6.drew) := Lib.hid (by
        rw [hW6]
        exact ⟨hB6, own_keep0 HO1.out ((Ch.refl S0 wr).alloc _).drew, own_keep0 HO2.out ((Ch.refl S0 wr).alloc _).drew, HNe.out, (HC.out.alloc _).drew, Nat.le_refl _, HwB.out, HOb.out.alloc _, Nat.le_trans (Nat.succ_le_of_lt HBl.out.lt) (by rw [World.size_alloc]; omega), hE, not_own HL1.out (Nat.le_refl _), not_own HL2.out (Nat.le_refl _), by rw [World.size_alloc]; omega⟩)
      have HN1f : Hid ((Value.slice A1 i k1).ownBlock ≠ some W6.heap.size) := Lib.hid (not_own HL1.out (by rw [hW6, World.size_alloc]; omega))
      have HN2f : Hid ((Value.slice A2 i k2).ownBlock ≠ some W6.heap.size) := Lib.hid (not_own HL2.out (by rw [hW6, World.size_alloc]; omega))
      have HN1s : Hid ((Value.slice A1 i k1).ownBlock ≠ some (W6.heap.size + 1)) := Lib.hid (not_own HL1.out (by rw [hW6, World.size_alloc]; omega))
      have HN2s : Hid ((Value.slice A2 i k2).ownBlock ≠ some (W6.heap.size + 1)) := Lib.hid (not_own HL2.out (by rw [hW6, World.size_alloc]; omega))
      rw [← hW6] at e0 e1 b1 b2
      rw [← hW6]
      obtain ⟨E9, hE9⟩ : ∃ E, wr.heap.size = E := ⟨_, rfl⟩
      rw [hE9] at e0 e1 H0 ⊢
      have HCx := HC
      clear hE hB6 hW6 hty HNe HOb HO1 HO2 HBl HL1 HL2 HC hE9 c0 HwB
      have H1 := Lib.hid (H0.out.alloc (.cells #[.int .i64 EK, .int .i64 EV] 38))
      have H2 := Lib.hid (H0.out.alloc (.cells #[.bool EB] 4))
      have H12 := Lib.hid (H1.out.alloc (.cells #[.bool EB] 4))
      have H21 := Lib.hid (H2.out.alloc (.cells #[.int .i64 EK, .int .i64 EV] 38))
      have H1z := Lib.hid (Nat.le_trans H1.out.hX H1.out.sz)
      have H2z := Lib.hid (Nat.le_trans H2.out.hX H2.out.sz)
      have H12z := Lib.hid (Nat.le_trans H12.out.hX H12.out.sz)
      have H21z := Lib.hid (Nat.le_trans H21.out.hX H21.out.sz)
      have R11 : Hid (Rd (W6.drew.alloc (.cells #[.int .i64 EK, .int .i64 EV] 38)) (some ⟨W6.heap.size, 0, none⟩) [.int .i64 EK, .int .i64 EV]) := Lib.hid (Rd.new W6.drew [.int .i64 EK, .int .i64 EV] 38)
      have R22 : Hid (Rd (W6.drew.alloc (.cells #[.bool EB] 4)) (some ⟨W6.heap.size, 0, none⟩) [.bool EB]) := Lib.hid (Rd.new W6.drew [.bool EB] 4)
      have R1f := Lib.hid (R11.out.keep0 ((Ch.refl S0 _).alloc (.cells #[.bool EB] 4)))
      have R2f := Lib.hid (R22.out.keep0 ((Ch.refl S0 _).alloc (.cells #[.int .i64 EK, .int .i64 EV] 38)))
      have R1s : Hid (Rd ((W6.drew.alloc (.cells #[.bool EB] 4)).alloc (.cells #[.int .i64 EK, .int .i64 EV] 38)) (some ⟨W6.heap.size + 1, 0, none⟩) [.int .i64 EK, .int .i64 EV]) := Lib.hid (Rd.new' [.int .i64 EK, .int .i64 EV] (by rw [World.size_alloc]; rfl))
      have R2s : Hid (Rd ((W6.drew.alloc (.cells #[.int .i64 EK, .int .i64 EV] 38)).alloc (.cells #[.bool EB] 4)) (some ⟨W6.heap.size + 1, 0, none⟩) [.bool EB]) := Lib.hid (Rd.new' [.bool EB] (by rw [World.size_alloc]; rfl))
      have HU1 : Hid (∀ u ∈ ([.int .i64 EK, .int .i64 EV] : List Value), u.oneCell' = true) := Lib.hid (by simp [Value.oneCell'])
      have HU2 : Hid (∀ u ∈ ([.bool EB] : List Value), u.oneCell' = true) := Lib.hid (by simp [Value.oneCell'])
      have x1 : (W6.alloc (.cells #[.int .i64 EK, .int .i64 EV] 38)).cell? ⟨B, 1, none⟩ = some (.slice A1 i k1) ∧ (W6.alloc (.cells #[.int .i64 EK, .int .i64 EV] 38)).cell? ⟨B, 2, none⟩ = some (.slice A2 i k2) ∧ (W6.alloc (.cells #[.int .i64 EK, .int .i64 EV] 38)).cell? ⟨E9, 0, none⟩ = some (.int .i64 EK) ∧ (W6.alloc (.cells #[.int .i64 EK, .int .i64 EV] 38)).cell? ⟨E9, 1, none⟩ = some (.int .i64 EV) := H1.out.cells0
      have x2 : (W6.alloc (.cells #[.bool EB] 4)).cell? ⟨B, 1, none⟩ = some (.slice A1 i k1) ∧ (W6.alloc (.cells #[.bool EB] 4)).cell? ⟨B, 2, none⟩ = some (.slice A2 i k2) ∧ (W6.alloc (.cells #[.bool EB] 4)).cell? ⟨E9, 0, none⟩ = some (.int .i64 EK) ∧ (W6.alloc (.cells #[.bool EB] 4)).cell? ⟨E9, 1, none⟩ = some (.int .i64 EV) := H2.out.cells0
      have x3 : ((W6.alloc (.cells #[.int .i64 EK, .int .i64 EV] 38)).alloc (.cells #[.bool EB] 4)).cell? ⟨B, 1, none⟩ = some (.slice A1 i k1) ∧ ((W6.alloc (.cells #[.int .i64 EK, .int .i64 EV] 38)).alloc (.cells #[.bool EB] 4)).cell? ⟨B, 2, none⟩ = some (.slice A2 i k2) ∧ ((W6.alloc (.cells #[.int .i64 EK, .int .i64 EV] 38)).alloc (.cells #[.bool EB] 4)).cell? ⟨E9, 0, none⟩ = some (.int .i64 EK) ∧ ((W6.alloc (.cells #[.int .i64 EK, .int .i64 EV] 38)).alloc (.cells #[.bool EB] 4)).cell? ⟨E9, 1, none⟩ = some (.int .i64 EV) := H12.out.cells0
      have x4 : ((W6.alloc (.cells #[.bool EB] 4)).alloc (.cells #[.int .i64 EK, .int .i64 EV] 38)).cell? ⟨B, 1, none⟩ = some (.slice A1 i k1) ∧ ((W6.alloc (.cells #[.bool EB] 4)).alloc (.cells #[.int .i64 EK, .int .i64 EV] 38)).cell? ⟨B, 2, none⟩ = some (.slice A2 i k2) ∧ ((W6.alloc (.cells #[.bool EB] 4)).alloc (.cells #[.int .i64 EK, .int .i64 EV] 38)).cell? ⟨E9, 0, none⟩ = some (.int .i64 EK) ∧ ((W6.alloc (.cells #[.bool EB] 4)).alloc (.cells #[.int .i64 EK, .int .i64 EV] 38)).cell? ⟨E9, 1, none⟩ = some (.int .i64 EV) := H21.out.cells0
      obtain ⟨x11, x12, x13, x14⟩ := x1
      obtain ⟨x21, x22, x23, x24⟩ := x2
      obtain ⟨x31, x32, x33, x34⟩ := x3
      obtain ⟨x41, x42, x43, x44⟩ := x4
      go_region_law (first
          | (refine step_all elAV rfl (.tmp 26) (.tmp 29) rfl (B + 1) i (.slice A1 i k1) (sc (an.take i)) (by rfl) H1.out.o1 W6.heap.size 0 1 1 [.int .i64 EK, .int .i64 EV] rfl HU1.out (by rfl) R11.out HM.out HM1.out H1z.out ?_
             intro v1 w1 hO hC hb _
             obtain ⟨A1', k1', rfl, _⟩ := own_rd hO
             have h6 := H1.out.app1 hO hC hb
             obtain ⟨y1, y2, y3, y4⟩ := h6.cells0; obtain ⟨z1, z2, z3, z4⟩ := (h6.alloc (.cells #[.bool EB] 4)).cells0; have HA1 := Lib.hid (h6.alloc (.cells #[.bool EB] 4)); have HA1z := Lib.hid (Nat.le_trans HA1.out.hX HA1.out.sz); have RA1 := Lib.hid (Rd.new w1 [.bool EB] 4)
             clear hO hC hb h6)
          | (refine step_all elAV rfl (.tmp 26) (.tmp 29) rfl (B + 1) i (.slice A1 i k1) (sc (an.take i)) (by rfl) H12.out.o1 W6.heap.size 0 1 1 [.int .i64 EK, .int .i64 EV] rfl HU1.out (by rfl) R1f.out HM.out HM1.out H12z.out ?_
             intro v1 w1 hO hC hb _
             obtain ⟨A1', k1', rfl, _⟩ := own_rd hO
             have h6 := H12.out.app1 hO hC hb
             obtain ⟨y1, y2, y3, y4⟩ := h6.cells0; have HB1 := Lib.hid h6; have HB1z := Lib.hid (Nat.le_trans h6.hX h6.sz); have RB1 := Lib.hid (R2s.out.past hC HN1s.out)
             clear hO hC hb h6)
          | (refine step_all elAV rfl (.tmp 26) (.tmp 29) rfl (B + 1) i (.slice A1 i k1) (sc (an.take i)) (by rfl) H21.out.o1 (W6.heap.size + 1) 0 1 1 [.int .i64 EK, .int .i64 EV] rfl HU1.out (by rfl) R1s.out HM.out HM1.out H21z.out ?_
             intro v1 w1 hO hC hb _
             obtain ⟨A1', k1', rfl, _⟩ := own_rd hO
             have h6 := H21.out.app1 hO hC hb
             obtain ⟨y1, y2, y3, y4⟩ := h6.cells0; have HC1 := Lib.hid h6; have HC1z := Lib.hid (Nat.le_trans h6.hX h6.sz); have RC1 := Lib.hid (R2f.out.past hC HN1f.out)
             clear hO hC hb h6)
          | (refine step_all elBo rfl (.tmp 32) (.tmp 34) rfl (B + 1) i (.slice A2 i k2) (hc (an.take i)) (by rfl) H2.out.o2 W6.heap.size 0 1 1 [.bool EB] rfl HU2.out (by rfl) R22.out HM.out HM2.out H2z.out ?_
             intro v2 w2 hO hC hb _
             obtain ⟨A2', k2', rfl, _⟩ := own_rd hO
             have h6 := H2.out.app2 hO hC hb
             obtain ⟨y1, y2, y3, y4⟩ := h6.cells0; obtain ⟨z1, z2, z3, z4⟩ := (h6.alloc (.cells #[.int .i64 EK, .int .i64 EV] 38)).cells0; have HA2 := Lib.hid (h6.alloc (.cells #[.int .i64 EK, .int .i64 EV] 38)); have HA2z := Lib.hid (Nat.le_trans HA2.out.hX HA2.out.sz); have RA2 := Lib.hid (Rd.new w2 [.int .i64 EK, .int .i64 EV] 38)
             clear hO hC hb h6)
          | (refine step_all elBo rfl (.tmp 32) (.tmp 34) rfl (B + 1) i (.slice A2 i k2) (hc (an.take i)) (by rfl) H21.out.o2 W6.heap.size 0 1 1 [.bool EB] rfl HU2.out (by rfl) R2f.out HM.out HM2.out H21z.out ?_
             intro v2 w2 hO hC hb _
             obtain ⟨A2', k2', rfl, _⟩ := own_rd hO
             have h6 := H21.out.app2 hO hC hb
             obtain ⟨y1, y2, y3, y4⟩ := h6.cells0; have HB2 := Lib.hid h6; have HB2z := Lib.hid (Nat.le_trans h6.hX h6.sz); have RB2 := Lib.hid (R1s.out.past hC HN2s.out)
             clear hO hC hb h6)
          | (refine step_all elBo rfl (.tmp 32) (.tmp 34) rfl (B + 1) i (.slice A2 i k2) (hc (an.take i)) (by rfl) H12.out.o2 (W6.heap.size + 1) 0 1 1 [.bool EB] rfl HU2.out (by rfl) R2s.out HM.out HM2.out H12z.out ?_
             intro v2 w2 hO hC hb _
             obtain ⟨A2', k2', rfl, _⟩ := own_rd hO
             have h6 := H12.out.app2 hO hC hb
             obtain ⟨y1, y2, y3, y4⟩ := h6.cells0; have HC2 := Lib.hid h6; have HC2z := Lib.hid (Nat.le_trans h6.hX h6.sz); have RC2 := Lib.hid (R1f.out.past hC HN2f.out)
             clear hO hC hb h6)
          | (refine step_all elAV rfl (.tmp 26) (.tmp 29) rfl (B + 1) i (.slice A1 i k1) (sc (an.take i)) (by rfl) HA2.out.o1 w2.heap.size 0 1 1 [.int .i64 EK, .int .i64 EV] rfl HU1.out (by rfl) RA2.out HM.out HM1.out HA2z.out ?_
             intro v1 w1 hO hC hb _
             obtain ⟨A1', k1', rfl, _⟩ := own_rd hO
             have h6 := HA2.out.app1 hO hC hb
             obtain ⟨y5, y6, y7, y8⟩ := h6.cells; have HFin := Lib.hid (S6.fin9 h6 HX.out Hi1.out HEK.out HEV.out HEB.out)
             clear hO hC hb h6)
          | (refine step_all elAV rfl (.tmp 26) (.tmp 29) rfl (B + 1) i (.slice A1 i k1) (sc (an.take i)) (by rfl) HB2.out.o1 (W6.heap.size + 1) 0 1 1 [.int .i64 EK, .int .i64 EV] rfl HU1.out (by rfl) RB2.out HM.out HM1.out HB2z.out ?_
             intro v1 w1 hO hC hb _
             obtain ⟨A1', k1', rfl, _⟩ := own_rd hO
             have h6 := HB2.out.app1 hO hC hb
             obtain ⟨y5, y6, y7, y8⟩ := h6.cells; have HFin := Lib.hid (S6.fin9 h6 HX.out Hi1.out HEK.out HEV.out HEB.out)
             clear hO hC hb h6)
          | (refine step_all elAV rfl (.tmp 26) (.tmp 29) rfl (B + 1) i (.slice A1 i k1) (sc (an.take i)) (by rfl) HC2.out.o1 W6.heap.size 0 1 1 [.int .i64 EK, .int .i64 EV] rfl HU1.out (by rfl) RC2.out HM.out HM1.out HC2z.out ?_
             intro v1 w1 hO hC hb _
             obtain ⟨A1', k1', rfl, _⟩ := own_rd hO
             have h6 := HC2.out.app1 hO hC hb
             obtain ⟨y5, y6, y7, y8⟩ := h6.cells; have HFin := Lib.hid (S6.fin9 h6 HX.out Hi1.out HEK.out HEV.out HEB.out)
             clear hO hC hb h6)
          | (refine step_all elBo rfl (.tmp 32) (.tmp 34) rfl (B + 1) i (.slice A2 i k2) (hc (an.take i)) (by rfl) HA1.out.o2 w1.heap.size 0 1 1 [.bool EB] rfl HU2.out (by rfl) RA1.out HM.out HM2.out HA1z.out ?_
             intro v2 w2 hO hC hb _
             obtain ⟨A2', k2', rfl, _⟩ := own_rd hO
             have h6 := HA1.out.app2 hO hC hb
             obtain ⟨y5, y6, y7, y8⟩ := h6.cells; have HFin := Lib.hid (S6.fin9 h6 HX.out Hi1.out HEK.out HEV.out HEB.out)
             clear hO hC hb h6)
          | (refine step_all elBo rfl (.tmp 32) (.tmp 34) rfl (B + 1) i (.slice A2 i k2) (hc (an.take i)) (by rfl) HB1.out.o2 (W6.heap.size + 1) 0 1 1 [.bool EB] rfl HU2.out (by rfl) RB1.out HM.out HM2.out HB1z.out ?_
             intro v2 w2 hO hC hb _
             obtain ⟨A2', k2', rfl, _⟩ := own_rd hO
             have h6 := HB1.out.app2 hO hC hb
             obtain ⟨y5, y6, y7, y8⟩ := h6.cells; have HFin := Lib.hid (S6.fin9 h6 HX.out Hi1.out HEK.out HEV.out HEB.out)
             clear hO hC hb h6)
          | (refine step_all elBo rfl (.tmp 32) (.tmp 34) rfl (B + 1) i (.slice A2 i k2) (hc (an.take i)) (by rfl) HC1.out.o2 W6.heap.size 0 1 1 [.bool EB] rfl HU2.out (by rfl) RC1.out HM.out HM2.out HC1z.out ?_
             intro v2 w2 hO hC hb _
             obtain ⟨A2', k2', rfl, _⟩ := own_rd hO
             have h6 := HC1.out.app2 hO hC hb
             obtain ⟨y5, y6, y7, y8⟩ := h6.cells; have HFin := Lib.hid (S6.fin9 h6 HX.out Hi1.out HEK.out HEV.out HEB.out)
             clear hO hC hb h6))
      all_goals go_step
      all_goals go_wp2_with fail
      all_goals go_roundw
      all_goals first | exact HFin.out | (simp [intOf]; omega) | trace_state
    · have hin : ¬ (i : Int) < (n : Nat) := by omega
      have hie : i = n := by omega
      subst hie
      have hT : an.take i = an := by rw [← HL.out, List.take_length]
      obtain ⟨A1, k1, rfl, r1, _, g1, _, _⟩ := own_rd HO1.out
      obtain ⟨A2, k2, rfl, r2, _, g2, _, _⟩ := own_rd HO2.out
      rw [hT] at r1 r2
      have b0 := HBl.out.cell 0
      have b1 := HBl.out.cell 1
      have b2 := HBl.out.cell 2
      have HR1 := Lib.hid r1
      have HR2 := Lib.hid r2
      have HG1 := Lib.hid g1
      have HG2 := Lib.hid g2
      have hb1 := HOb.out.set 0 (.int .i64 m)
      have hb2 := hb1.set 1 (.slice A1 i k1)
      have hb3 := hb2.set 2 (.slice A2 i k2)
      obtain ⟨S, hS⟩ : ∃ S, w.heap.size = S := ⟨_, rfl⟩
      have o0 := HOb.out.cell 0
      have o1 := hb1.cell 1
      have o2 := hb2.cell 2
      have f0 := HOb.out.free 0
      have f1 := hb1.free 1
      have f2 := hb2.free 2
      have z0 := hb3.cell 0
      have z1 := hb3.cell 1
      have z2 := hb3.cell 2
      have hSB : S + 1 = B := by rw [← hS]; exact HBB.out
      rw [hS] at o0 o1 o2 f0 f1 f2 z0 z1 z2
      have hCf : Ch (S1 S) wr (((wr.setCell ⟨S, 0, none⟩ (.int .i64 m)).setCell ⟨S, 1, none⟩ (.slice A1 i k1)).setCell ⟨S, 2, none⟩ (.slice A2 i k2)) := Ch.setCell (S := S1 S) (Ch.setCell (S := S1 S) (Ch.setCell (S := S1 S) (Ch.refl _ wr) ⟨S, 0, none⟩ (fun _ => rfl) _) ⟨S, 1, none⟩ (fun _ => rfl) _) ⟨S, 2, none⟩ (fun _ => rfl) _
      have HCf := Lib.hid hCf
      have HSB := Lib.hid hSB
      have HS := Lib.hid hS
      have HT := Lib.hid hT
      simp only [List.getElem?_toArray, List.getElem?_cons_zero, List.getElem?_cons_succ, List.setIfInBounds_toArray, List.set_cons_zero, List.set_cons_succ] at b0 b1 b2 o0 o1 o2 z0 z1 z2
      clear r1 r2 g1 g2 hb1 hb2 hb3 hCf hSB hT
      rw [hS]
      clear hS
      go_wp2_with fail
      refine bodyPost_ret (v := .agg #[.int .i64 m, .slice A1 i k1, .slice A2 i k2]) (by simp [results, Try.results25, go_sem, z0, z1, z2]) rfl ?_
      refine ⟨A1, k1, A2, k2, rfl, HR1.out.keep HCf.out (fun b o e h => ?_), HR2.out.keep HCf.out (fun b o e h => ?_), fun b o e => ?_, fun b o e => ?_, HC.out.trans' HCf.out (fun j hj e => by have e : j = S := e; have := HS.out; omega)⟩
      · have h : b = S := h; have := (HG1.out b o none e).2.1; have := HSB.out; omega
      · have h : b = S := h; have := (HG2.out b o none e).2.1; have := HSB.out; omega
      · have := HG1.out b o none e; have := HSB.out; have := HS.out; have := HCf.out.size; omega
      · have := HG2.out b o none e; have := HSB.out; have := HS.out; have := HCf.out.size; omega
end Go.Proofs.Ytlppnbmaedgodaa
