/- THE WALK of FnBSDeepApart. -/
import Derived.Test.YtgnhmgnpmbmjcaaR2
import Derived.Test.YtgnhmgnpmbmjcaaVi
import Derived.Test.YtgnhmgnpmbmjcaaWr
import Derived.Test.YtgnhmgnpmbmjcaaWj
namespace Go.Proofs.Ytgnhmgnpmbmjcaa
open Go.RowKit


/-- The steps that are laid so far. -/
def Laid (on m : Nat) (xs : List Value) : Prop :=
  ∀ i, i ≤ m → ∃ op o b A B : Nat, (xs[i * 5]? = some (.int .i64 op) ∧ xs[i * 5 + 1]? = some (.int .i64 o) ∧ xs[i * 5 + 2]? = some (.int .i64 b) ∧ xs[i * 5 + 3]? = some (.int .u64 A) ∧ xs[i * 5 + 4]? = some (.int .u64 B)) ∧
    (i = 0 → op = 14 ∧ o = 0 ∧ b = 0) ∧ (0 < i → o = on ∧ b = 1 - on ∧ A < 600 ∧ B < 600 ∧ (1 ≤ op ∧ op ≤ 7 ∨ 11 ≤ op ∧ op ≤ 13))

theorem Laid.zero (on : Nat) : Laid on 0 [.int .i64 14, .int .i64 0, .int .i64 0, .int .u64 0, .int .u64 0] := fun i hi => by
  obtain rfl : i = 0 := by omega
  exact ⟨14, 0, 0, 0, 0, ⟨rfl, rfl, rfl, rfl, rfl⟩, fun _ => ⟨rfl, rfl, rfl⟩, fun h => by omega⟩
theorem Laid.snoc {on m : Nat} {xs : List Value} (h : Laid on m xs) (hl : xs.length = (m + 1) * 5) (op A B : Nat) (hA : A < 600) (hB : B < 600) (ho : 1 ≤ op ∧ op ≤ 7 ∨ 11 ≤ op ∧ op ≤ 13) :
    Laid on (m + 1) (xs ++ [.int .i64 (op : Nat), .int .i64 (on : Nat), .int .i64 ((1 - on : Nat) : Int), .int .u64 (A : Nat), .int .u64 (B : Nat)]) := fun i hi => by
  by_cases h1 : i ≤ m
  · obtain ⟨op', o, b, A', B', ⟨k0, k1, k2, k3, k4⟩, h2⟩ := h i h1
    refine ⟨op', o, b, A', B', ⟨?_, ?_, ?_, ?_, ?_⟩, h2⟩ <;> rw [List.getElem?_append_left (by omega)] <;> assumption
  · obtain rfl : i = m + 1 := by omega
    refine ⟨op, on, 1 - on, A, B, ⟨?_, ?_, ?_, ?_, ?_⟩, fun h => by omega, fun _ => ⟨rfl, rfl, hA, hB, ho⟩⟩ <;> rw [List.getElem?_append_right (by omega), hl] <;> simp [Nat.add_sub_cancel_left]
theorem Laid.steps {on m g c base : Nat} {xs : List Value} {w : World} (h : Laid on m xs) (hl : xs.length = (m + 1) * 5) (on' : Nat) (ho : on' = 1 - on)
    (hw : w.ownsRow base 48 5 (.slice (some ⟨g, 0, none⟩) (m + 2 : Nat) c) (m + 2) (xs ++ [.int .i64 14, .int .i64 (on' : Nat), .int .i64 0, .int .u64 0, .int .u64 0])) :
    ∀ i, i < m + 2 → ∃ op o b A B : Nat, StpAt w g i op o b A B ∧ Stp (m + 2) on i op o b A B := fun i hi => by
  by_cases h1 : i ≤ m
  · obtain ⟨op, o, b, A, B, ⟨k0, k1, k2, k3, k4⟩, h2, h3⟩ := h i h1
    refine ⟨op, o, b, A, B, ⟨own_cell hw _ _ ?_, own_cell hw _ _ ?_, own_cell hw _ _ ?_, own_cell hw _ _ ?_, own_cell hw _ _ ?_⟩, h2, fun h _ => h3 h, fun _ h => by omega⟩ <;> rw [List.getElem?_append_left (by omega)] <;> assumption
  · obtain rfl : i = m + 1 := by omega
    subst ho
    refine ⟨14, 1 - on, 0, 0, 0, ⟨own_cell hw _ _ ?_, own_cell hw _ _ ?_, own_cell hw _ _ ?_, own_cell hw _ _ ?_, own_cell hw _ _ ?_⟩, fun h => by omega, fun _ h => by omega, fun _ _ => ⟨rfl, rfl, rfl⟩⟩ <;> rw [List.getElem?_append_right (by omega), hl] <;> simp [Nat.add_sub_cancel_left]

/-- l = append(l, s), l of type []BSStep, the call's own: five cells each; where it lies is a block. -/
theorem appStep_at {w : World} {ops : Array Oper} {rest : List Oper} {o : Oper} {a : Act} {Q : Exit → Act → World → Prop} (hgd : o.guard = none) (s x : Operand)
    (ho : o.op = .call { callee := .builtin .append, args := #[s, x], argTypes := #[46, 46] }) (base n : Nat) (v : Value) (xs : List Value) (hs : a.eval s = v) (hown : w.ownsRow base 48 5 v n xs)
    (o1 o2 o3 : Int) (o4 o5 : Int) (hx : a.eval x = .slice (some ⟨w.heap.size, 0, none⟩) 1 1) (hn : n ≤ 1000000) (hb : base ≤ w.heap.size)
    (h : ∀ g c w', w'.ownsRow base 48 5 (.slice (some ⟨g, 0, none⟩) (n + 1 : Nat) c) (n + 1) (xs ++ [.int .i64 o1, .int .i64 o2, .int .i64 o3, .int .u64 o4, .int .u64 o5]) → (w.alloc (.cells #[.int .i64 o1, .int .i64 o2, .int .i64 o3, .int .u64 o4, .int .u64 o5] 48)).grownBy w' v.ownBlock → wpList Try.prog ops Q rest (a.put o.dst (.slice (some ⟨g, 0, none⟩) (n + 1 : Nat) c)) w') :
    wpList Try.prog ops Q (o :: rest) a (w.alloc (.cells #[.int .i64 o1, .int .i64 o2, .int .i64 o3, .int .u64 o4, .int .u64 o5] 48)) := by
  obtain ⟨i0, hi0, hz0, hz1, hz2⟩ := info_parts Try.info48
  refine wpList_append_own _ hgd s x 46 ho base 48 i0 (.agg #[.int .i64 0, .int .i64 0, .int .i64 0, .int .u64 0, .int .u64 0]) 5 40 Try.underlying46 hi0 hz0 hz1 hz2 rfl (by decide) v n xs hs (hown.alloc _) ⟨w.heap.size, 0, none⟩ 1 1 [.int .i64 o1, .int .i64 o2, .int .i64 o3, .int .u64 o4, .int .u64 o5] hx rfl ?_ ?_ (by unfold maxLen; omega) (by omega) (by simp; omega) ?_
  · intro j u hj
    match j, hj with
    | 0, hj => simp at hj; subst hj; simp [Addr.add]
    | 1, hj => simp at hj; subst hj; simp [Addr.add]
    | 2, hj => simp at hj; subst hj; simp [Addr.add]
    | 3, hj => simp at hj; subst hj; simp [Addr.add]
    | 4, hj => simp at hj; subst hj; simp [Addr.add]
  · intro u hu
    simp at hu
    rcases hu with rfl | rfl | rfl | rfl | rfl <;> rfl
  · intro v' w' h1 h2 _
    have h1' := h1
    rcases h1.2 with ⟨_, h0⟩ | ⟨g, cap, cur, rfl, _⟩
    · omega
    · exact h _ _ _ h1' h2

/-- A number without its sign. -/
def absN (x : Int) : Nat := if x < 0 then (-(x + 1)).toNat else x.toNat
set_option maxRecDepth 100000 in
theorem abs_eq (x : Int) (h : -9223372036854775808 ≤ x) (h2 : x ≤ 9223372036854775807) (w : World) :
    Calls Try.prog 39 #[.int .i64 x] w fun e w' => e = .returned (.int .i64 (absN x : Nat)) ∧ w' = w := by
  go_enter Try.func39, Try.ntmps39
  by_cases hx : x < 0
  · go_wp2_with fail
    go_ret
    exact ⟨int_eq (by unfold absN; rw [if_pos hx]; omega), rfl⟩
  · go_wp2_with fail
    go_ret
    exact ⟨int_eq (by unfold absN; split <;> omega), rfl⟩

theorem Ch.cellAt {w w' : World} (h : Ch S0 w w') {a : Addr} {v : Value} (hv : w.cell? a = some v) : w'.cell? a = some v := by
  rw [World.cell?_of_block (w := w) (h.block a.block (World.block_lt_of_cell? w _ hv) (fun h => h))]; exact hv
theorem places_pos {g : Nat → Bool} {L : Nat} (i : Nat) (hg : g i = true) (hi : i < L) : 0 < (places g L).length :=
  List.length_pos_of_mem (a := i) (by unfold places; simp [hg, hi])
theorem cnt_pos' {g : Nat → Bool} {L : Nat} (i : Nat) (hg : g i = true) (hi : i < L) : 0 < Bit.cnt g L := by
  have h1 : Bit.cnt g (i + 1) ≤ Bit.cnt g L := Bit.cnt_mono g hi
  have h2 : Bit.cnt g (i + 1) = Bit.cnt g i + (g i).toNat := rfl
  rw [hg] at h2
  simp at h2
  omega

set_option maxRecDepth 100000 in
set_option maxHeartbeats 4000000 in
theorem apart_small (l1 : Nat) (P1 : Option Addr) (m1 r1 : Nat) (xs1 : List Nat) (u1 : Nat) (PA : Option Addr) (nA cA : Nat) (back : Bool) (w : World) (hl1 : Lst 0 w (.slice P1 m1 r1) xs1) (hx1 : ∀ j (hj : j < xs1.length), xs1[j] < 18446744073709551616) (hn1 : xs1.length = m1) (hm1 : m1 ≤ 2147483647) (hu1 : u1 < 65536) (hst : StpsIn w PA nA) (hnA : nA ≤ 2147483647) :
    Calls Try.prog 12 #[.agg #[.int .u64 l1, .slice P1 m1 r1], .int .u16 u1, .slice PA nA cA, .bool back] w fun e w' => e = .returned (.bool true) ∧ Ch S0 w w' := by
  have HX1 := Lib.hid hx1
  have LX1 := Lib.hid hn1
  have IX1 := Lib.hid hl1
  have HC0 := Lib.hid (Ch.refl S0 w)
  clear hx1 hn1 hl1
  have HSt := Lib.hid hst
  clear hst
  go_enter Try.func12, Try.ntmps12
  go_wp2_with fail
  refine (fits_yes l1 m1 r1 P1 _ hm1).mono ?_
  rintro e w1 ⟨rfl, hC⟩
  have hCC : Ch S0 w w1 := Ch.trans (by first | exact Ch.refl _ _ | exact (Ch.refl _ _).alloc _ | exact (Ch.refl _ _).drew | exact ((Ch.refl _ _).alloc _).alloc _ | exact ((Ch.refl _ _).alloc _).drew | exact (((Ch.refl _ _).alloc _).alloc _).alloc _ | exact (((Ch.refl _ _).alloc _).alloc _).drew | exact ((((Ch.refl _ _).alloc _).alloc _).alloc _).drew | exact ((((Ch.refl _ _).alloc _).alloc _).alloc _).alloc _ | exact (((((Ch.refl _ _).alloc _).alloc _).alloc _).alloc _).drew) hC
  have HC1 := Lib.hid (HC0.out.trans hCC)
  clear HC0
  have Bp1 : Hid (Blk w1 (w.heap.size) #[.int .u64 (l1 : Nat), .slice P1 m1 r1]) := Lib.hid (Blk.keep (S := S0) (by first | exact Blk.newAt _ _ (by simp) | exact (Blk.newAt _ _ (by simp)).alloc _ | exact ((Blk.newAt _ _ (by simp)).alloc _).alloc _ | exact (((Blk.newAt _ _ (by simp)).alloc _).alloc _).alloc _) hC (fun h => h))
  clear hC hCC
  try clear xp10 xp11
  try clear xp1z
  have xp1z := Bp1.out.lt
  have xp10 := Bp1.out.cell 0
  have xp11 := Bp1.out.cell 1
  simp only [List.getElem?_toArray, List.getElem?_cons_zero, List.getElem?_cons_succ] at xp10 xp11
  go_wp2_with fail
  refine (bits_any l1 _ xs1 _ (IX1.out.keep (HC1.out.trans (by first | exact Ch.refl _ _ | exact (Ch.refl _ _).alloc _ | exact (Ch.refl _ _).drew | exact ((Ch.refl _ _).alloc _).alloc _ | exact ((Ch.refl _ _).alloc _).drew | exact (((Ch.refl _ _).alloc _).alloc _).alloc _ | exact (((Ch.refl _ _).alloc _).alloc _).drew | exact ((((Ch.refl _ _).alloc _).alloc _).alloc _).drew | exact ((((Ch.refl _ _).alloc _).alloc _).alloc _).alloc _ | exact (((((Ch.refl _ _).alloc _).alloc _).alloc _).alloc _).drew))) HX1.out (by rw [LX1.out]; omega)).mono ?_
  rintro e w2 ⟨va, La, ga, rfl, hLa, hV, hC⟩
  obtain ⟨Aa, na, ca, rfl⟩ := hV.shape
  have hCC : Ch S0 w1 w2 := Ch.trans (by first | exact Ch.refl _ _ | exact (Ch.refl _ _).alloc _ | exact (Ch.refl _ _).drew | exact ((Ch.refl _ _).alloc _).alloc _ | exact ((Ch.refl _ _).alloc _).drew | exact (((Ch.refl _ _).alloc _).alloc _).alloc _ | exact (((Ch.refl _ _).alloc _).alloc _).drew | exact ((((Ch.refl _ _).alloc _).alloc _).alloc _).drew | exact ((((Ch.refl _ _).alloc _).alloc _).alloc _).alloc _ | exact (((((Ch.refl _ _).alloc _).alloc _).alloc _).alloc _).drew) hC
  have HC2 := Lib.hid (HC1.out.trans hCC)
  clear HC1
  have Bx := Lib.hid (Bp1.out.keep hCC (fun h => h))
  clear Bp1
  have Bp1 := Bx
  clear Bx
  have Ha := Lib.hid (hV.mono (base' := 0) (Nat.zero_le _))
  clear hV
  clear hC hCC
  try clear xp10 xp11
  try clear xp1z
  have xp1z := Bp1.out.lt
  have xp10 := Bp1.out.cell 0
  have xp11 := Bp1.out.cell 1
  simp only [List.getElem?_toArray, List.getElem?_cons_zero, List.getElem?_cons_succ] at xp10 xp11
  go_wp2_with fail
  refine (bsset_any _ _ _ _ (Ha.out.keep (by first | exact Ch.refl _ _ | exact (Ch.refl _ _).alloc _ | exact (Ch.refl _ _).drew | exact ((Ch.refl _ _).alloc _).alloc _ | exact ((Ch.refl _ _).alloc _).drew | exact (((Ch.refl _ _).alloc _).alloc _).alloc _ | exact (((Ch.refl _ _).alloc _).alloc _).drew | exact ((((Ch.refl _ _).alloc _).alloc _).alloc _).drew | exact ((((Ch.refl _ _).alloc _).alloc _).alloc _).alloc _ | exact (((((Ch.refl _ _).alloc _).alloc _).alloc _).alloc _).drew)) (u1 % 400) _ (by omega) (by omega)).mono ?_
  rintro e w3 ⟨vb, rfl, hV, hC⟩
  obtain ⟨Lb, hE⟩ : ∃ x, x = max La ((u1 % 400) + 1) := ⟨_, rfl⟩
  rw [← hE] at hV
  have Eb := Lib.hid hE
  clear hE
  obtain ⟨Ab, nb, cb, rfl⟩ := hV.shape
  have hCC : Ch S0 w2 w3 := Ch.trans (by first | exact Ch.refl _ _ | exact (Ch.refl _ _).alloc _ | exact (Ch.refl _ _).drew | exact ((Ch.refl _ _).alloc _).alloc _ | exact ((Ch.refl _ _).alloc _).drew | exact (((Ch.refl _ _).alloc _).alloc _).alloc _ | exact (((Ch.refl _ _).alloc _).alloc _).drew | exact ((((Ch.refl _ _).alloc _).alloc _).alloc _).drew | exact ((((Ch.refl _ _).alloc _).alloc _).alloc _).alloc _ | exact (((((Ch.refl _ _).alloc _).alloc _).alloc _).alloc _).drew) hC
  have HC3 := Lib.hid (HC2.out.trans hCC)
  clear HC2
  have Hx := Lib.hid (Ha.out.keep hCC)
  clear Ha
  have Ha := Hx
  clear Hx
  have Bx := Lib.hid (Bp1.out.keep hCC (fun h => h))
  clear Bp1
  have Bp1 := Bx
  clear Bx
  have Hb := Lib.hid (hV.mono (base' := 0) (Nat.zero_le _))
  clear hV
  clear hC hCC
  try clear xp10 xp11
  try clear xp1z
  have xp1z := Bp1.out.lt
  have xp10 := Bp1.out.cell 0
  have xp11 := Bp1.out.cell 1
  simp only [List.getElem?_toArray, List.getElem?_cons_zero, List.getElem?_cons_succ] at xp10 xp11
  cases back
  · go_wp2_with fail
    have HBv : Hid (Blk (w3.alloc (Obj.cells #[Value.int IntKind.u64 ↑Lb, Value.slice Ab nb cb] 25)) w3.heap.size #[Value.int IntKind.u64 ↑Lb, Value.slice Ab nb cb]) := Lib.hid (Blk.new _ _ _)
    have hCC : Ch S0 w3 (w3.alloc (Obj.cells #[Value.int IntKind.u64 ↑Lb, Value.slice Ab nb cb] 25)) := (Ch.refl _ _).alloc _
    have HC4 := Lib.hid (HC3.out.trans hCC)
    have Hx := Lib.hid (Hb.out.keep hCC)
    have hsz : (w3.alloc (Obj.cells #[Value.int IntKind.u64 ↑Lb, Value.slice Ab nb cb] 25)).heap.size = w3.heap.size + 1 := by simp
    clear Hb Ha Bp1 xp10 xp11 xp1z
    have Hb := Hx
    have HSt4 := Lib.hid (HSt.out.keep HC4.out)
    clear Hx hCC HC3 HSt
    generalize (w3.alloc (Obj.cells #[Value.int IntKind.u64 ↑Lb, Value.slice Ab nb cb] 25)) = w4 at *
    generalize w3.heap.size = b9 at *
    have hown0 : (w4.alloc (Obj.cells #[Value.int IntKind.i64 14, Value.int IntKind.i64 0, Value.int IntKind.i64 0, Value.int IntKind.u64 0, Value.int IntKind.u64 0] 48)).ownsRow (b9 + 1) 48 5 (.slice (some ⟨b9 + 1, 0, none⟩) (0 + 1 : Nat) (1 : Nat)) (0 + 1) [.int .i64 14, .int .i64 0, .int .i64 0, .int .u64 0, .int .u64 0] :=
      ⟨rfl, .inr ⟨b9 + 1, 1, #[Value.int IntKind.i64 14, Value.int IntKind.i64 0, Value.int IntKind.i64 0, Value.int IntKind.u64 0, Value.int IntKind.u64 0], rfl, Nat.le_refl _, by have := heap_alloc_new w4 (Obj.cells #[Value.int IntKind.i64 14, Value.int IntKind.i64 0, Value.int IntKind.i64 0, Value.int IntKind.u64 0, Value.int IntKind.u64 0] 48); rwa [hsz] at this, by omega, by unfold maxLen; omega, rfl, rfl⟩⟩
    have hsz1 := Nat.le_of_eq hsz
    have hsz2 := Nat.le_of_eq hsz.symm
    clear hsz
    have HO0 := Lib.hid hown0
    have HL := Lib.hid (Laid.zero 1)
    clear hown0
    go_loopw [12, 13] (fun v12 v13 wr => ∃ (m : Nat) (xs : List Value) (bl c : Nat), m ≤ 20 ∧ m ≤ nA ∧ v13 = .int .i64 m ∧ v12 = .slice (some ⟨bl, 0, none⟩) (m + 1 : Nat) c ∧ wr.ownsRow (b9 + 1) 48 5 (.slice (some ⟨bl, 0, none⟩) (m + 1 : Nat) c) (m + 1) xs ∧ Laid 1 m xs ∧ Ch S0 w4 wr) (fun _ k _ => 20 - (intOf k).toNat)
    case atStart => exact ⟨0, _, _, _, by omega, by omega, rfl, rfl, HO0.out, HL.out, (Ch.refl _ _).alloc _⟩
    case round =>
      obtain ⟨m, xs, bl, c, hm, hmA, rfl, rfl, hown, hlaid, hch⟩ := hrel
      clear HO0 HL
      by_cases hgo : m < nA ∧ m < 20
      · obtain ⟨g1, g2⟩ := hgo
        obtain ⟨sb, so, op, x, y, rfl, s0, s3, s4, so1, so2⟩ := HSt4.out.keep hch m g1
        have HO := Lib.hid hown
        have HL := Lib.hid hlaid
        have HCh := Lib.hid hch
        have hwr := hch.size
        clear hown hlaid hch
        go_wp2_with fail
        obtain ⟨p, hp, hp1⟩ : ∃ p : Nat, absN op % 10 + 1 = p ∧ 1 ≤ p ∧ p ≤ 10 := ⟨_, rfl, by omega, by omega⟩
        have e1 : IntKind.i64.wrap (1 + ((absN op : Nat) : Int).tmod 10) = (p : Nat) := by rw [Int.tmod_eq_emod_of_nonneg (by omega), IntKind.wrap_i64]; omega
        obtain ⟨xa, hxa, hxl⟩ : ∃ xa, x % 600 = xa ∧ xa < 600 := ⟨_, rfl, Nat.mod_lt _ (by decide)⟩
        have e2 : (x : Int).tmod 600 = (xa : Nat) := by rw [Int.tmod_eq_emod_of_nonneg (by omega)]; omega
        obtain ⟨ya, hya, hyl⟩ : ∃ ya, y % 600 = ya ∧ ya < 600 := ⟨_, rfl, Nat.mod_lt _ (by decide)⟩
        have e3 : (y : Int).tmod 600 = (ya : Nat) := by rw [Int.tmod_eq_emod_of_nonneg (by omega)]; omega
        have E1 := Lib.hid e1
        have E2 := Lib.hid e2
        have E3 := Lib.hid e3
        clear e1 e2 e3 hp hxa hya
        go_region_held3 (fun w' => w'.cell? ⟨sb, so + m * 5, none⟩ = some (.int .i64 op) ∧ w'.cell? ⟨sb, so + m * 5 + 3, none⟩ = some (.int .u64 x) ∧ w'.cell? ⟨sb, so + m * 5 + 4, none⟩ = some (.int .u64 y))
          (first | ((try dsimp only); (repeat' apply And.intro) <;> assumption) | (go_keep; done))
          (first | (go_at_call 39; (with_reducible refine (abs_eq op so1 so2 _).mono ?_); rintro e w9 ⟨rfl, rfl⟩))
        all_goals
          rw [E1.out, E2.out, E3.out]
          clear E1 E2 E3 s0 s3 s4
          have hc5 : Ch S0 wr (wr.alloc (Obj.cells #[Value.int IntKind.i64 ↑p, Value.int IntKind.i64 1, Value.int IntKind.i64 0, Value.int IntKind.u64 ↑xa, Value.int IntKind.u64 ↑ya] 48)).drew := ((Ch.refl _ _).alloc _).drew
          have HBs := Lib.hid ((Blk.new wr #[Value.int IntKind.i64 ↑p, Value.int IntKind.i64 1, Value.int IntKind.i64 0, Value.int IntKind.u64 ↑xa, Value.int IntKind.u64 ↑ya] 48).drew)
          have ho5 := own_keep HO.out hc5
          have HC5 := Lib.hid (HCh.out.trans hc5)
          have hbl := own_lt HO.out
          have hl5 := HO.out.1
          have hb5 : (wr.alloc (Obj.cells #[Value.int IntKind.i64 ↑p, Value.int IntKind.i64 1, Value.int IntKind.i64 0, Value.int IntKind.u64 ↑xa, Value.int IntKind.u64 ↑ya] 48)).drew.heap.size ≥ wr.heap.size + 1 := by show (wr.heap.push _).size ≥ _; simp
          generalize (wr.alloc (Obj.cells #[Value.int IntKind.i64 ↑p, Value.int IntKind.i64 1, Value.int IntKind.i64 0, Value.int IntKind.u64 ↑xa, Value.int IntKind.u64 ↑ya] 48)).drew = w5 at *
          generalize wr.heap.size = b5 at *
          have x0 := HBs.out.cell 0
          have x1 := HBs.out.cell 1
          have x2 := HBs.out.cell 2
          have x3 := HBs.out.cell 3
          have x4 := HBs.out.cell 4
          have xf := HBs.out.free 0
          simp only [List.getElem?_toArray, List.getElem?_cons_zero, List.getElem?_cons_succ] at x0 x1 x2 x3 x4
          clear hc5 HO HCh
          have HO5 := Lib.hid ho5
          have HL5 := Lib.hid hl5
          clear ho5 hl5
          by_cases h7 : p ≤ 7
          · have ho6 := HO5.out
            go_wp2_with (at_builtin; go_loud (refine appStep_at rfl _ _ rfl (b9 + 1) (m + 1) (.slice (some ⟨bl, 0, none⟩) (m + 1 : Nat) c) xs rfl ho6 p 1 0 xa ya rfl (by omega) (by omega) ?_); intro g6 c6 w6 hown6 hgr6; have HO6 := Lib.hid hown6; have HG6 := Lib.hid hgr6; clear hown6 hgr6)
            go_roundw
            case rel =>
              have hg := grew (S := S0) HG6.out
              exact ⟨m + 1, _, g6, c6, by omega, by omega, by go_num, rfl, HO6.out, HL.out.snoc (by have := HL5.out; omega) p xa ya hxl hyl (by omega), HC5.out.trans' hg (fun k hk hs => by cases hs; omega)⟩
            case measure => simp [intOf]; omega
          · have hcs : Ch (S1 b5) w5 (w5.setCell ⟨b5, 0, none⟩ (.int .i64 ((p : Int) + 3))) := (Ch.refl _ _).setCell _ (fun _ => show S1 b5 b5 from rfl) _
            have ho6 := own_keepS HO5.out hcs (show ¬ S1 b5 bl from Nat.ne_of_lt hbl.2)
            have HC6 := Lib.hid (HC5.out.trans' hcs (fun k hk hs => by cases hs; omega))
            have HSS := Lib.hid (show (w5.setCell ⟨b5, 0, none⟩ (.int .i64 ((p : Int) + 3))).heap.size = w5.heap.size by simp)
            clear hcs
            go_wp2_with (at_builtin; go_loud (refine appStep_at rfl _ _ rfl (b9 + 1) (m + 1) (.slice (some ⟨bl, 0, none⟩) (m + 1 : Nat) c) xs rfl ho6 (p + 3) 1 0 xa ya (by rw [HSS.out]; rfl) (by omega) (by simp; omega) ?_); intro g6 c6 w6 hown6 hgr6; have HO6 := Lib.hid hown6; have HG6 := Lib.hid hgr6; clear hown6 hgr6)
            go_roundw
            case rel =>
              have hg := grew (S := S0) HG6.out
              exact ⟨m + 1, _, g6, c6, by omega, by omega, by go_num, rfl, HO6.out, HL.out.snoc (by have := HL5.out; omega) (p + 3) xa ya hxl hyl (by omega), HC6.out.trans' hg (fun k hk hs => by cases hs; omega)⟩
            case measure => simp [intOf]; omega
      · rcases Nat.lt_or_ge m nA with h1 | h1
        · have h2 : ¬ m < 20 := fun h => hgo ⟨h1, h⟩
          have HO := Lib.hid hown
          have HL := Lib.hid hlaid
          have HCh := Lib.hid hch
          have hwr := hch.size
          have hbl := own_lt hown
          have HL5 := Lib.hid hown.1
          clear hlaid hch
          go_wp2_with (at_builtin; go_loud (refine appStep_at rfl _ _ rfl (b9 + 1) (m + 1) (.slice (some ⟨bl, 0, none⟩) (m + 1 : Nat) c) xs rfl hown 14 0 0 0 0 rfl (by omega) (by omega) ?_); intro g6 c6 w6 hown6 hgr6; generalize hN : m + 1 + 1 = N at *; have HN := Lib.hid hN; clear hN; have hc6 := HCh.out.trans' (grew (S := S0) hgr6) (fun k hk hs => by cases hs; omega); have HO6 := Lib.hid hown6; have HC6 := Lib.hid hc6; have Bv := Lib.hid (HBv.out.keep hc6 (fun h => h)); have Hb6 := Lib.hid (Hb.out.keep hc6); have k0 := Bv.out.cell 0; have k1 := Bv.out.cell 1; simp only [List.getElem?_toArray, List.getElem?_cons_zero, List.getElem?_cons_succ] at k0 k1; clear hown6 hgr6 hc6)
          refine (bsrun_any _ Lb _ g6 N c6 1 _ Hb6.out (by have := Eb.out; omega) (places_pos (u1 % 400) (by simp [Bit.put]) (by have := Eb.out; omega)) (by decide) (by have := HN.out; omega) (by have := HN.out; omega) (by have h := HO6.out; rw [← HN.out] at h ⊢; exact Laid.steps HL.out HL5.out 0 rfl h)).mono ?_
          rintro e w7 ⟨ov, rfl, hRan, hC7⟩
          obtain ⟨bo, co, y0, y1, z0, z1, rfl, g0, g1, l0, l1, hI1, hI2⟩ := hRan.val
          obtain ⟨A1, n1, c1, he⟩ := hI1.shape
          simp only [Value.agg.injEq, Array.mk.injEq, List.cons.injEq, and_true] at he
          obtain ⟨rfl, rfl⟩ := he
          obtain ⟨A2, n2, c2, he⟩ := hI2.shape
          simp only [Value.agg.injEq, Array.mk.injEq, List.cons.injEq, and_true] at he
          obtain ⟨rfl, rfl⟩ := he
          have hK : m + 1 + 1 = N := HN.out
          obtain ⟨K, hKN⟩ : ∃ K, K = N - 1 := ⟨_, rfl⟩
          rw [show 2 * (N - 1) = K * 2 by omega] at l0 l1
          have HC7 := Lib.hid ((HC4.out.trans HC6.out).trans hC7)
          have Hb7 := Lib.hid (Hb6.out.keep hC7)
          have HI7 := Lib.hid hI1
          have HJ7 := Lib.hid hI2
          have qk0 := hC7.cellAt k0
          have qk1 := hC7.cellAt k1
          clear k0 k1
          have k0 := qk0
          have k1 := qk1
          obtain ⟨t, ht, ht0⟩ : ∃ t, Bit.cnt (Bit.put ga (u1 % 400) true) Lb = t ∧ 0 < t := ⟨_, rfl, cnt_pos' (u1 % 400) (by simp [Bit.put]) (by have := Eb.out; omega)⟩
          have HT := Lib.hid ht
          have i1 : (0 : Int) ≤ IntKind.i64.wrap ((N : Int) - 1) := by rw [IntWalk.i64_in _ (by omega)]; omega
          have i2 : (IntKind.i64.wrap ((N : Int) - 1)).toNat = K := by rw [IntWalk.i64_in _ (by omega)]; omega
          have i3 : IntKind.i64.wrap ((N : Int) - 1) < (N : Int) := by rw [IntWalk.i64_in _ (by omega)]; omega
          have i4 : (0 : Int) < (N : Int) := by omega
          have i5 : 0 < N := by omega
          clear hK hKN
          clear hC7 hI1 hI2 hRan qk0 qk1 HC4 HC6 Hb6 Hb HO6 Bv HBv ht HCh HL HO HL5 hown
          go_wp2_with fail
          go_region_held3 (fun w' => w'.cell? ⟨b9, 0, none⟩ = some (.int .u64 (Lb : Nat)) ∧ w'.cell? ⟨b9, 1, none⟩ = some (.slice Ab nb cb) ∧ w'.cell? ⟨bo, 0, none⟩ = some (.int .u64 (Lb : Nat)) ∧ w'.cell? ⟨bo, 1, none⟩ = some (.slice A1 n1 c1) ∧ w'.cell? ⟨bo, K * 2, none⟩ = some (.int .u64 (Lb : Nat)) ∧ w'.cell? ⟨bo, K * 2 + 1, none⟩ = some (.slice A2 n2 c2))
            (first | ((try dsimp only); (repeat' apply And.intro) <;> assumption) | (go_keep; done))
            (first
              | (go_at_call 30
                 (with_reducible refine (bscount_t _ _ _ _ (Hb7.out.keep (by first | exact Ch.refl _ _ | exact (Ch.refl _ _).alloc _ | exact (Ch.refl _ _).drew | exact ((Ch.refl _ _).alloc _).alloc _ | exact ((Ch.refl _ _).alloc _).drew | exact (((Ch.refl _ _).alloc _).alloc _).alloc _ | exact (((Ch.refl _ _).alloc _).alloc _).drew | exact ((((Ch.refl _ _).alloc _).alloc _).alloc _).drew | exact ((((Ch.refl _ _).alloc _).alloc _).alloc _).alloc _ | exact (((((Ch.refl _ _).alloc _).alloc _).alloc _).alloc _).drew)) t HT.out).mono ?_)
                 rintro e w8 ⟨rfl, hC⟩
                 have hCC : Ch S0 w7 w8 := Ch.trans (by first | exact Ch.refl _ _ | exact (Ch.refl _ _).alloc _ | exact (Ch.refl _ _).drew | exact ((Ch.refl _ _).alloc _).alloc _ | exact ((Ch.refl _ _).alloc _).drew | exact (((Ch.refl _ _).alloc _).alloc _).alloc _ | exact (((Ch.refl _ _).alloc _).alloc _).drew | exact ((((Ch.refl _ _).alloc _).alloc _).alloc _).drew | exact ((((Ch.refl _ _).alloc _).alloc _).alloc _).alloc _ | exact (((((Ch.refl _ _).alloc _).alloc _).alloc _).alloc _).drew) hC
                 have HC8 := Lib.hid (HC7.out.trans hCC)
                 have Hb8 := Lib.hid (Hb7.out.keep hCC)
                 have HI8 := Lib.hid (HI7.out.keep hCC)
                 have HJ8 := Lib.hid (HJ7.out.keep hCC)
                 have qk0 := hCC.cellAt k0
                 clear k0
                 have k0 := qk0
                 clear qk0
                 have qk1 := hCC.cellAt k1
                 clear k1
                 have k1 := qk1
                 clear qk1
                 have qg0 := hCC.cellAt g0
                 clear g0
                 have g0 := qg0
                 clear qg0
                 have qg1 := hCC.cellAt g1
                 clear g1
                 have g1 := qg1
                 clear qg1
                 have ql0 := hCC.cellAt l0
                 clear l0
                 have l0 := ql0
                 clear ql0
                 have ql1 := hCC.cellAt l1
                 clear l1
                 have l1 := ql1
                 clear ql1
                 clear hC hCC)
              | (go_at_call 16
                 (with_reducible refine (bssame_true _ _ Lb _ _ (HI8.out.keep (by first | exact Ch.refl _ _ | exact (Ch.refl _ _).alloc _ | exact (Ch.refl _ _).drew | exact ((Ch.refl _ _).alloc _).alloc _ | exact ((Ch.refl _ _).alloc _).drew | exact (((Ch.refl _ _).alloc _).alloc _).alloc _ | exact (((Ch.refl _ _).alloc _).alloc _).drew | exact ((((Ch.refl _ _).alloc _).alloc _).alloc _).drew | exact ((((Ch.refl _ _).alloc _).alloc _).alloc _).alloc _ | exact (((((Ch.refl _ _).alloc _).alloc _).alloc _).alloc _).drew)) (Hb8.out.keep (by first | exact Ch.refl _ _ | exact (Ch.refl _ _).alloc _ | exact (Ch.refl _ _).drew | exact ((Ch.refl _ _).alloc _).alloc _ | exact ((Ch.refl _ _).alloc _).drew | exact (((Ch.refl _ _).alloc _).alloc _).alloc _ | exact (((Ch.refl _ _).alloc _).alloc _).drew | exact ((((Ch.refl _ _).alloc _).alloc _).alloc _).drew | exact ((((Ch.refl _ _).alloc _).alloc _).alloc _).alloc _ | exact (((((Ch.refl _ _).alloc _).alloc _).alloc _).alloc _).drew))).mono ?_)
                 rintro e w9 ⟨rfl, hC⟩
                 have hCC : Ch S0 w8 w9 := Ch.trans (by first | exact Ch.refl _ _ | exact (Ch.refl _ _).alloc _ | exact (Ch.refl _ _).drew | exact ((Ch.refl _ _).alloc _).alloc _ | exact ((Ch.refl _ _).alloc _).drew | exact (((Ch.refl _ _).alloc _).alloc _).alloc _ | exact (((Ch.refl _ _).alloc _).alloc _).drew | exact ((((Ch.refl _ _).alloc _).alloc _).alloc _).drew | exact ((((Ch.refl _ _).alloc _).alloc _).alloc _).alloc _ | exact (((((Ch.refl _ _).alloc _).alloc _).alloc _).alloc _).drew) hC
                 have HC9 := Lib.hid (HC8.out.trans hCC)
                 have Hb9 := Lib.hid (Hb8.out.keep hCC)
                 have HI9 := Lib.hid (HI8.out.keep hCC)
                 have HJ9 := Lib.hid (HJ8.out.keep hCC)
                 have qk0 := hCC.cellAt k0
                 clear k0
                 have k0 := qk0
                 clear qk0
                 have qk1 := hCC.cellAt k1
                 clear k1
                 have k1 := qk1
                 clear qk1
                 have qg0 := hCC.cellAt g0
                 clear g0
                 have g0 := qg0
                 clear qg0
                 have qg1 := hCC.cellAt g1
                 clear g1
                 have g1 := qg1
                 clear qg1
                 have ql0 := hCC.cellAt l0
                 clear l0
                 have l0 := ql0
                 clear ql0
                 have ql1 := hCC.cellAt l1
                 clear l1
                 have l1 := ql1
                 clear ql1
                 clear hC hCC)
              | (go_at_call 16
                 (with_reducible refine (bssame_true _ _ Lb _ _ (HJ9.out.keep (by first | exact Ch.refl _ _ | exact (Ch.refl _ _).alloc _ | exact (Ch.refl _ _).drew | exact ((Ch.refl _ _).alloc _).alloc _ | exact ((Ch.refl _ _).alloc _).drew | exact (((Ch.refl _ _).alloc _).alloc _).alloc _ | exact (((Ch.refl _ _).alloc _).alloc _).drew | exact ((((Ch.refl _ _).alloc _).alloc _).alloc _).drew | exact ((((Ch.refl _ _).alloc _).alloc _).alloc _).alloc _ | exact (((((Ch.refl _ _).alloc _).alloc _).alloc _).alloc _).drew)) (Hb9.out.keep (by first | exact Ch.refl _ _ | exact (Ch.refl _ _).alloc _ | exact (Ch.refl _ _).drew | exact ((Ch.refl _ _).alloc _).alloc _ | exact ((Ch.refl _ _).alloc _).drew | exact (((Ch.refl _ _).alloc _).alloc _).alloc _ | exact (((Ch.refl _ _).alloc _).alloc _).drew | exact ((((Ch.refl _ _).alloc _).alloc _).alloc _).drew | exact ((((Ch.refl _ _).alloc _).alloc _).alloc _).alloc _ | exact (((((Ch.refl _ _).alloc _).alloc _).alloc _).alloc _).drew))).mono ?_)
                 rintro e w10 ⟨rfl, hC⟩
                 have hCC : Ch S0 w9 w10 := Ch.trans (by first | exact Ch.refl _ _ | exact (Ch.refl _ _).alloc _ | exact (Ch.refl _ _).drew | exact ((Ch.refl _ _).alloc _).alloc _ | exact ((Ch.refl _ _).alloc _).drew | exact (((Ch.refl _ _).alloc _).alloc _).alloc _ | exact (((Ch.refl _ _).alloc _).alloc _).drew | exact ((((Ch.refl _ _).alloc _).alloc _).alloc _).drew | exact ((((Ch.refl _ _).alloc _).alloc _).alloc _).alloc _ | exact (((((Ch.refl _ _).alloc _).alloc _).alloc _).alloc _).drew) hC
                 have HC10 := Lib.hid (HC9.out.trans hCC)
                 have Hb10 := Lib.hid (Hb9.out.keep hCC)
                 have HI10 := Lib.hid (HI9.out.keep hCC)
                 have HJ10 := Lib.hid (HJ9.out.keep hCC)
                 have qk0 := hCC.cellAt k0
                 clear k0
                 have k0 := qk0
                 clear qk0
                 have qk1 := hCC.cellAt k1
                 clear k1
                 have k1 := qk1
                 clear qk1
                 have qg0 := hCC.cellAt g0
                 clear g0
                 have g0 := qg0
                 clear qg0
                 have qg1 := hCC.cellAt g1
                 clear g1
                 have g1 := qg1
                 clear qg1
                 have ql0 := hCC.cellAt l0
                 clear l0
                 have l0 := ql0
                 clear ql0
                 have ql1 := hCC.cellAt l1
                 clear l1
                 have l1 := ql1
                 clear ql1
                 clear hC hCC))
          go_wp2
          go_ret
          exact ⟨rfl, HC10.out⟩
        · clear hgo
          have HO := Lib.hid hown
          have HL := Lib.hid hlaid
          have HCh := Lib.hid hch
          have hwr := hch.size
          have hbl := own_lt hown
          have HL5 := Lib.hid hown.1
          clear hlaid hch
          go_wp2_with (at_builtin; go_loud (refine appStep_at rfl _ _ rfl (b9 + 1) (m + 1) (.slice (some ⟨bl, 0, none⟩) (m + 1 : Nat) c) xs rfl hown 14 0 0 0 0 rfl (by omega) (by omega) ?_); intro g6 c6 w6 hown6 hgr6; generalize hN : m + 1 + 1 = N at *; have HN := Lib.hid hN; clear hN; have hc6 := HCh.out.trans' (grew (S := S0) hgr6) (fun k hk hs => by cases hs; omega); have HO6 := Lib.hid hown6; have HC6 := Lib.hid hc6; have Bv := Lib.hid (HBv.out.keep hc6 (fun h => h)); have Hb6 := Lib.hid (Hb.out.keep hc6); have k0 := Bv.out.cell 0; have k1 := Bv.out.cell 1; simp only [List.getElem?_toArray, List.getElem?_cons_zero, List.getElem?_cons_succ] at k0 k1; clear hown6 hgr6 hc6)
          refine (bsrun_any _ Lb _ g6 N c6 1 _ Hb6.out (by have := Eb.out; omega) (places_pos (u1 % 400) (by simp [Bit.put]) (by have := Eb.out; omega)) (by decide) (by have := HN.out; omega) (by have := HN.out; omega) (by have h := HO6.out; rw [← HN.out] at h ⊢; exact Laid.steps HL.out HL5.out 0 rfl h)).mono ?_
          rintro e w7 ⟨ov, rfl, hRan, hC7⟩
          obtain ⟨bo, co, y0, y1, z0, z1, rfl, g0, g1, l0, l1, hI1, hI2⟩ := hRan.val
          obtain ⟨A1, n1, c1, he⟩ := hI1.shape
          simp only [Value.agg.injEq, Array.mk.injEq, List.cons.injEq, and_true] at he
          obtain ⟨rfl, rfl⟩ := he
          obtain ⟨A2, n2, c2, he⟩ := hI2.shape
          simp only [Value.agg.injEq, Array.mk.injEq, List.cons.injEq, and_true] at he
          obtain ⟨rfl, rfl⟩ := he
          have hK : m + 1 + 1 = N := HN.out
          obtain ⟨K, hKN⟩ : ∃ K, K = N - 1 := ⟨_, rfl⟩
          rw [show 2 * (N - 1) = K * 2 by omega] at l0 l1
          have HC7 := Lib.hid ((HC4.out.trans HC6.out).trans hC7)
          have Hb7 := Lib.hid (Hb6.out.keep hC7)
          have HI7 := Lib.hid hI1
          have HJ7 := Lib.hid hI2
          have qk0 := hC7.cellAt k0
          have qk1 := hC7.cellAt k1
          clear k0 k1
          have k0 := qk0
          have k1 := qk1
          obtain ⟨t, ht, ht0⟩ : ∃ t, Bit.cnt (Bit.put ga (u1 % 400) true) Lb = t ∧ 0 < t := ⟨_, rfl, cnt_pos' (u1 % 400) (by simp [Bit.put]) (by have := Eb.out; omega)⟩
          have HT := Lib.hid ht
          have i1 : (0 : Int) ≤ IntKind.i64.wrap ((N : Int) - 1) := by rw [IntWalk.i64_in _ (by omega)]; omega
          have i2 : (IntKind.i64.wrap ((N : Int) - 1)).toNat = K := by rw [IntWalk.i64_in _ (by omega)]; omega
          have i3 : IntKind.i64.wrap ((N : Int) - 1) < (N : Int) := by rw [IntWalk.i64_in _ (by omega)]; omega
          have i4 : (0 : Int) < (N : Int) := by omega
          have i5 : 0 < N := by omega
          clear hK hKN
          clear hC7 hI1 hI2 hRan qk0 qk1 HC4 HC6 Hb6 Hb HO6 Bv HBv ht HCh HL HO HL5 hown
          go_wp2_with fail
          go_region_held3 (fun w' => w'.cell? ⟨b9, 0, none⟩ = some (.int .u64 (Lb : Nat)) ∧ w'.cell? ⟨b9, 1, none⟩ = some (.slice Ab nb cb) ∧ w'.cell? ⟨bo, 0, none⟩ = some (.int .u64 (Lb : Nat)) ∧ w'.cell? ⟨bo, 1, none⟩ = some (.slice A1 n1 c1) ∧ w'.cell? ⟨bo, K * 2, none⟩ = some (.int .u64 (Lb : Nat)) ∧ w'.cell? ⟨bo, K * 2 + 1, none⟩ = some (.slice A2 n2 c2))
            (first | ((try dsimp only); (repeat' apply And.intro) <;> assumption) | (go_keep; done))
            (first
              | (go_at_call 30
                 (with_reducible refine (bscount_t _ _ _ _ (Hb7.out.keep (by first | exact Ch.refl _ _ | exact (Ch.refl _ _).alloc _ | exact (Ch.refl _ _).drew | exact ((Ch.refl _ _).alloc _).alloc _ | exact ((Ch.refl _ _).alloc _).drew | exact (((Ch.refl _ _).alloc _).alloc _).alloc _ | exact (((Ch.refl _ _).alloc _).alloc _).drew | exact ((((Ch.refl _ _).alloc _).alloc _).alloc _).drew | exact ((((Ch.refl _ _).alloc _).alloc _).alloc _).alloc _ | exact (((((Ch.refl _ _).alloc _).alloc _).alloc _).alloc _).drew)) t HT.out).mono ?_)
                 rintro e w8 ⟨rfl, hC⟩
                 have hCC : Ch S0 w7 w8 := Ch.trans (by first | exact Ch.refl _ _ | exact (Ch.refl _ _).alloc _ | exact (Ch.refl _ _).drew | exact ((Ch.refl _ _).alloc _).alloc _ | exact ((Ch.refl _ _).alloc _).drew | exact (((Ch.refl _ _).alloc _).alloc _).alloc _ | exact (((Ch.refl _ _).alloc _).alloc _).drew | exact ((((Ch.refl _ _).alloc _).alloc _).alloc _).drew | exact ((((Ch.refl _ _).alloc _).alloc _).alloc _).alloc _ | exact (((((Ch.refl _ _).alloc _).alloc _).alloc _).alloc _).drew) hC
                 have HC8 := Lib.hid (HC7.out.trans hCC)
                 have Hb8 := Lib.hid (Hb7.out.keep hCC)
                 have HI8 := Lib.hid (HI7.out.keep hCC)
                 have HJ8 := Lib.hid (HJ7.out.keep hCC)
                 have qk0 := hCC.cellAt k0
                 clear k0
                 have k0 := qk0
                 clear qk0
                 have qk1 := hCC.cellAt k1
                 clear k1
                 have k1 := qk1
                 clear qk1
                 have qg0 := hCC.cellAt g0
                 clear g0
                 have g0 := qg0
                 clear qg0
                 have qg1 := hCC.cellAt g1
                 clear g1
                 have g1 := qg1
                 clear qg1
                 have ql0 := hCC.cellAt l0
                 clear l0
                 have l0 := ql0
                 clear ql0
                 have ql1 := hCC.cellAt l1
                 clear l1
                 have l1 := ql1
                 clear ql1
                 clear hC hCC)
              | (go_at_call 16
                 (with_reducible refine (bssame_true _ _ Lb _ _ (HI8.out.keep (by first | exact Ch.refl _ _ | exact (Ch.refl _ _).alloc _ | exact (Ch.refl _ _).drew | exact ((Ch.refl _ _).alloc _).alloc _ | exact ((Ch.refl _ _).alloc _).drew | exact (((Ch.refl _ _).alloc _).alloc _).alloc _ | exact (((Ch.refl _ _).alloc _).alloc _).drew | exact ((((Ch.refl _ _).alloc _).alloc _).alloc _).drew | exact ((((Ch.refl _ _).alloc _).alloc _).alloc _).alloc _ | exact (((((Ch.refl _ _).alloc _).alloc _).alloc _).alloc _).drew)) (Hb8.out.keep (by first | exact Ch.refl _ _ | exact (Ch.refl _ _).alloc _ | exact (Ch.refl _ _).drew | exact ((Ch.refl _ _).alloc _).alloc _ | exact ((Ch.refl _ _).alloc _).drew | exact (((Ch.refl _ _).alloc _).alloc _).alloc _ | exact (((Ch.refl _ _).alloc _).alloc _).drew | exact ((((Ch.refl _ _).alloc _).alloc _).alloc _).drew | exact ((((Ch.refl _ _).alloc _).alloc _).alloc _).alloc _ | exact (((((Ch.refl _ _).alloc _).alloc _).alloc _).alloc _).drew))).mono ?_)
                 rintro e w9 ⟨rfl, hC⟩
                 have hCC : Ch S0 w8 w9 := Ch.trans (by first | exact Ch.refl _ _ | exact (Ch.refl _ _).alloc _ | exact (Ch.refl _ _).drew | exact ((Ch.refl _ _).alloc _).alloc _ | exact ((Ch.refl _ _).alloc _).drew | exact (((Ch.refl _ _).alloc _).alloc _).alloc _ | exact (((Ch.refl _ _).alloc _).alloc _).drew | exact ((((Ch.refl _ _).alloc _).alloc _).alloc _).drew | exact ((((Ch.refl _ _).alloc _).alloc _).alloc _).alloc _ | exact (((((Ch.refl _ _).alloc _).alloc _).alloc _).alloc _).drew) hC
                 have HC9 := Lib.hid (HC8.out.trans hCC)
                 have Hb9 := Lib.hid (Hb8.out.keep hCC)
                 have HI9 := Lib.hid (HI8.out.keep hCC)
                 have HJ9 := Lib.hid (HJ8.out.keep hCC)
                 have qk0 := hCC.cellAt k0
                 clear k0
                 have k0 := qk0
                 clear qk0
                 have qk1 := hCC.cellAt k1
                 clear k1
                 have k1 := qk1
                 clear qk1
                 have qg0 := hCC.cellAt g0
                 clear g0
                 have g0 := qg0
                 clear qg0
                 have qg1 := hCC.cellAt g1
                 clear g1
                 have g1 := qg1
                 clear qg1
                 have ql0 := hCC.cellAt l0
                 clear l0
                 have l0 := ql0
                 clear ql0
                 have ql1 := hCC.cellAt l1
                 clear l1
                 have l1 := ql1
                 clear ql1
                 clear hC hCC)
              | (go_at_call 16
                 (with_reducible refine (bssame_true _ _ Lb _ _ (HJ9.out.keep (by first | exact Ch.refl _ _ | exact (Ch.refl _ _).alloc _ | exact (Ch.refl _ _).drew | exact ((Ch.refl _ _).alloc _).alloc _ | exact ((Ch.refl _ _).alloc _).drew | exact (((Ch.refl _ _).alloc _).alloc _).alloc _ | exact (((Ch.refl _ _).alloc _).alloc _).drew | exact ((((Ch.refl _ _).alloc _).alloc _).alloc _).drew | exact ((((Ch.refl _ _).alloc _).alloc _).alloc _).alloc _ | exact (((((Ch.refl _ _).alloc _).alloc _).alloc _).alloc _).drew)) (Hb9.out.keep (by first | exact Ch.refl _ _ | exact (Ch.refl _ _).alloc _ | exact (Ch.refl _ _).drew | exact ((Ch.refl _ _).alloc _).alloc _ | exact ((Ch.refl _ _).alloc _).drew | exact (((Ch.refl _ _).alloc _).alloc _).alloc _ | exact (((Ch.refl _ _).alloc _).alloc _).drew | exact ((((Ch.refl _ _).alloc _).alloc _).alloc _).drew | exact ((((Ch.refl _ _).alloc _).alloc _).alloc _).alloc _ | exact (((((Ch.refl _ _).alloc _).alloc _).alloc _).alloc _).drew))).mono ?_)
                 rintro e w10 ⟨rfl, hC⟩
                 have hCC : Ch S0 w9 w10 := Ch.trans (by first | exact Ch.refl _ _ | exact (Ch.refl _ _).alloc _ | exact (Ch.refl _ _).drew | exact ((Ch.refl _ _).alloc _).alloc _ | exact ((Ch.refl _ _).alloc _).drew | exact (((Ch.refl _ _).alloc _).alloc _).alloc _ | exact (((Ch.refl _ _).alloc _).alloc _).drew | exact ((((Ch.refl _ _).alloc _).alloc _).alloc _).drew | exact ((((Ch.refl _ _).alloc _).alloc _).alloc _).alloc _ | exact (((((Ch.refl _ _).alloc _).alloc _).alloc _).alloc _).drew) hC
                 have HC10 := Lib.hid (HC9.out.trans hCC)
                 have Hb10 := Lib.hid (Hb9.out.keep hCC)
                 have HI10 := Lib.hid (HI9.out.keep hCC)
                 have HJ10 := Lib.hid (HJ9.out.keep hCC)
                 have qk0 := hCC.cellAt k0
                 clear k0
                 have k0 := qk0
                 clear qk0
                 have qk1 := hCC.cellAt k1
                 clear k1
                 have k1 := qk1
                 clear qk1
                 have qg0 := hCC.cellAt g0
                 clear g0
                 have g0 := qg0
                 clear qg0
                 have qg1 := hCC.cellAt g1
                 clear g1
                 have g1 := qg1
                 clear qg1
                 have ql0 := hCC.cellAt l0
                 clear l0
                 have l0 := ql0
                 clear ql0
                 have ql1 := hCC.cellAt l1
                 clear l1
                 have l1 := ql1
                 clear ql1
                 clear hC hCC))
          go_wp2
          go_ret
          exact ⟨rfl, HC10.out⟩
  · go_wp2_with fail
    have HBv : Hid (Blk (w3.alloc (Obj.cells #[Value.int IntKind.u64 ↑Lb, Value.slice Ab nb cb] 25)) w3.heap.size #[Value.int IntKind.u64 ↑Lb, Value.slice Ab nb cb]) := Lib.hid (Blk.new _ _ _)
    have hCC : Ch S0 w3 (w3.alloc (Obj.cells #[Value.int IntKind.u64 ↑Lb, Value.slice Ab nb cb] 25)) := (Ch.refl _ _).alloc _
    have HC4 := Lib.hid (HC3.out.trans hCC)
    have Hx := Lib.hid (Hb.out.keep hCC)
    have hsz : (w3.alloc (Obj.cells #[Value.int IntKind.u64 ↑Lb, Value.slice Ab nb cb] 25)).heap.size = w3.heap.size + 1 := by simp
    clear Hb Ha Bp1 xp10 xp11 xp1z
    have Hb := Hx
    have HSt4 := Lib.hid (HSt.out.keep HC4.out)
    clear Hx hCC HC3 HSt
    generalize (w3.alloc (Obj.cells #[Value.int IntKind.u64 ↑Lb, Value.slice Ab nb cb] 25)) = w4 at *
    generalize w3.heap.size = b9 at *
    have hown0 : (w4.alloc (Obj.cells #[Value.int IntKind.i64 14, Value.int IntKind.i64 0, Value.int IntKind.i64 0, Value.int IntKind.u64 0, Value.int IntKind.u64 0] 48)).ownsRow (b9 + 1) 48 5 (.slice (some ⟨b9 + 1, 0, none⟩) (0 + 1 : Nat) (1 : Nat)) (0 + 1) [.int .i64 14, .int .i64 0, .int .i64 0, .int .u64 0, .int .u64 0] :=
      ⟨rfl, .inr ⟨b9 + 1, 1, #[Value.int IntKind.i64 14, Value.int IntKind.i64 0, Value.int IntKind.i64 0, Value.int IntKind.u64 0, Value.int IntKind.u64 0], rfl, Nat.le_refl _, by have := heap_alloc_new w4 (Obj.cells #[Value.int IntKind.i64 14, Value.int IntKind.i64 0, Value.int IntKind.i64 0, Value.int IntKind.u64 0, Value.int IntKind.u64 0] 48); rwa [hsz] at this, by omega, by unfold maxLen; omega, rfl, rfl⟩⟩
    have hsz1 := Nat.le_of_eq hsz
    have hsz2 := Nat.le_of_eq hsz.symm
    clear hsz
    have HO0 := Lib.hid hown0
    have HL := Lib.hid (Laid.zero 0)
    clear hown0
    go_loopw [12, 13] (fun v12 v13 wr => ∃ (m : Nat) (xs : List Value) (bl c : Nat), m ≤ 20 ∧ m ≤ nA ∧ v13 = .int .i64 m ∧ v12 = .slice (some ⟨bl, 0, none⟩) (m + 1 : Nat) c ∧ wr.ownsRow (b9 + 1) 48 5 (.slice (some ⟨bl, 0, none⟩) (m + 1 : Nat) c) (m + 1) xs ∧ Laid 0 m xs ∧ Ch S0 w4 wr) (fun _ k _ => 20 - (intOf k).toNat)
    case atStart => exact ⟨0, _, _, _, by omega, by omega, rfl, rfl, HO0.out, HL.out, (Ch.refl _ _).alloc _⟩
    case round =>
      obtain ⟨m, xs, bl, c, hm, hmA, rfl, rfl, hown, hlaid, hch⟩ := hrel
      clear HO0 HL
      by_cases hgo : m < nA ∧ m < 20
      · obtain ⟨g1, g2⟩ := hgo
        obtain ⟨sb, so, op, x, y, rfl, s0, s3, s4, so1, so2⟩ := HSt4.out.keep hch m g1
        have HO := Lib.hid hown
        have HL := Lib.hid hlaid
        have HCh := Lib.hid hch
        have hwr := hch.size
        clear hown hlaid hch
        go_wp2_with fail
        obtain ⟨p, hp, hp1⟩ : ∃ p : Nat, absN op % 10 + 1 = p ∧ 1 ≤ p ∧ p ≤ 10 := ⟨_, rfl, by omega, by omega⟩
        have e1 : IntKind.i64.wrap (1 + ((absN op : Nat) : Int).tmod 10) = (p : Nat) := by rw [Int.tmod_eq_emod_of_nonneg (by omega), IntKind.wrap_i64]; omega
        obtain ⟨xa, hxa, hxl⟩ : ∃ xa, x % 600 = xa ∧ xa < 600 := ⟨_, rfl, Nat.mod_lt _ (by decide)⟩
        have e2 : (x : Int).tmod 600 = (xa : Nat) := by rw [Int.tmod_eq_emod_of_nonneg (by omega)]; omega
        obtain ⟨ya, hya, hyl⟩ : ∃ ya, y % 600 = ya ∧ ya < 600 := ⟨_, rfl, Nat.mod_lt _ (by decide)⟩
        have e3 : (y : Int).tmod 600 = (ya : Nat) := by rw [Int.tmod_eq_emod_of_nonneg (by omega)]; omega
        have E1 := Lib.hid e1
        have E2 := Lib.hid e2
        have E3 := Lib.hid e3
        clear e1 e2 e3 hp hxa hya
        go_region_held3 (fun w' => w'.cell? ⟨sb, so + m * 5, none⟩ = some (.int .i64 op) ∧ w'.cell? ⟨sb, so + m * 5 + 3, none⟩ = some (.int .u64 x) ∧ w'.cell? ⟨sb, so + m * 5 + 4, none⟩ = some (.int .u64 y))
          (first | ((try dsimp only); (repeat' apply And.intro) <;> assumption) | (go_keep; done))
          (first | (go_at_call 39; (with_reducible refine (abs_eq op so1 so2 _).mono ?_); rintro e w9 ⟨rfl, rfl⟩))
        all_goals
          rw [E1.out, E2.out, E3.out]
          clear E1 E2 E3 s0 s3 s4
          have hc5 : Ch S0 wr (wr.alloc (Obj.cells #[Value.int IntKind.i64 ↑p, Value.int IntKind.i64 0, Value.int IntKind.i64 1, Value.int IntKind.u64 ↑xa, Value.int IntKind.u64 ↑ya] 48)).drew := ((Ch.refl _ _).alloc _).drew
          have HBs := Lib.hid ((Blk.new wr #[Value.int IntKind.i64 ↑p, Value.int IntKind.i64 0, Value.int IntKind.i64 1, Value.int IntKind.u64 ↑xa, Value.int IntKind.u64 ↑ya] 48).drew)
          have ho5 := own_keep HO.out hc5
          have HC5 := Lib.hid (HCh.out.trans hc5)
          have hbl := own_lt HO.out
          have hl5 := HO.out.1
          have hb5 : (wr.alloc (Obj.cells #[Value.int IntKind.i64 ↑p, Value.int IntKind.i64 0, Value.int IntKind.i64 1, Value.int IntKind.u64 ↑xa, Value.int IntKind.u64 ↑ya] 48)).drew.heap.size ≥ wr.heap.size + 1 := by show (wr.heap.push _).size ≥ _; simp
          generalize (wr.alloc (Obj.cells #[Value.int IntKind.i64 ↑p, Value.int IntKind.i64 0, Value.int IntKind.i64 1, Value.int IntKind.u64 ↑xa, Value.int IntKind.u64 ↑ya] 48)).drew = w5 at *
          generalize wr.heap.size = b5 at *
          have x0 := HBs.out.cell 0
          have x1 := HBs.out.cell 1
          have x2 := HBs.out.cell 2
          have x3 := HBs.out.cell 3
          have x4 := HBs.out.cell 4
          have xf := HBs.out.free 0
          simp only [List.getElem?_toArray, List.getElem?_cons_zero, List.getElem?_cons_succ] at x0 x1 x2 x3 x4
          clear hc5 HO HCh
          have HO5 := Lib.hid ho5
          have HL5 := Lib.hid hl5
          clear ho5 hl5
          by_cases h7 : p ≤ 7
          · have ho6 := HO5.out
            go_wp2_with (at_builtin; go_loud (refine appStep_at rfl _ _ rfl (b9 + 1) (m + 1) (.slice (some ⟨bl, 0, none⟩) (m + 1 : Nat) c) xs rfl ho6 p 0 1 xa ya rfl (by omega) (by omega) ?_); intro g6 c6 w6 hown6 hgr6; have HO6 := Lib.hid hown6; have HG6 := Lib.hid hgr6; clear hown6 hgr6)
            go_roundw
            case rel =>
              have hg := grew (S := S0) HG6.out
              exact ⟨m + 1, _, g6, c6, by omega, by omega, by go_num, rfl, HO6.out, HL.out.snoc (by have := HL5.out; omega) p xa ya hxl hyl (by omega), HC5.out.trans' hg (fun k hk hs => by cases hs; omega)⟩
            case measure => simp [intOf]; omega
          · have hcs : Ch (S1 b5) w5 (w5.setCell ⟨b5, 0, none⟩ (.int .i64 ((p : Int) + 3))) := (Ch.refl _ _).setCell _ (fun _ => show S1 b5 b5 from rfl) _
            have ho6 := own_keepS HO5.out hcs (show ¬ S1 b5 bl from Nat.ne_of_lt hbl.2)
            have HC6 := Lib.hid (HC5.out.trans' hcs (fun k hk hs => by cases hs; omega))
            have HSS := Lib.hid (show (w5.setCell ⟨b5, 0, none⟩ (.int .i64 ((p : Int) + 3))).heap.size = w5.heap.size by simp)
            clear hcs
            go_wp2_with (at_builtin; go_loud (refine appStep_at rfl _ _ rfl (b9 + 1) (m + 1) (.slice (some ⟨bl, 0, none⟩) (m + 1 : Nat) c) xs rfl ho6 (p + 3) 0 1 xa ya (by rw [HSS.out]; rfl) (by omega) (by simp; omega) ?_); intro g6 c6 w6 hown6 hgr6; have HO6 := Lib.hid hown6; have HG6 := Lib.hid hgr6; clear hown6 hgr6)
            go_roundw
            case rel =>
              have hg := grew (S := S0) HG6.out
              exact ⟨m + 1, _, g6, c6, by omega, by omega, by go_num, rfl, HO6.out, HL.out.snoc (by have := HL5.out; omega) (p + 3) xa ya hxl hyl (by omega), HC6.out.trans' hg (fun k hk hs => by cases hs; omega)⟩
            case measure => simp [intOf]; omega
      · rcases Nat.lt_or_ge m nA with h1 | h1
        · have h2 : ¬ m < 20 := fun h => hgo ⟨h1, h⟩
          have HO := Lib.hid hown
          have HL := Lib.hid hlaid
          have HCh := Lib.hid hch
          have hwr := hch.size
          have hbl := own_lt hown
          have HL5 := Lib.hid hown.1
          clear hlaid hch
          go_wp2_with (at_builtin; go_loud (refine appStep_at rfl _ _ rfl (b9 + 1) (m + 1) (.slice (some ⟨bl, 0, none⟩) (m + 1 : Nat) c) xs rfl hown 14 1 0 0 0 rfl (by omega) (by omega) ?_); intro g6 c6 w6 hown6 hgr6; generalize hN : m + 1 + 1 = N at *; have HN := Lib.hid hN; clear hN; have hc6 := HCh.out.trans' (grew (S := S0) hgr6) (fun k hk hs => by cases hs; omega); have HO6 := Lib.hid hown6; have HC6 := Lib.hid hc6; have Bv := Lib.hid (HBv.out.keep hc6 (fun h => h)); have Hb6 := Lib.hid (Hb.out.keep hc6); have k0 := Bv.out.cell 0; have k1 := Bv.out.cell 1; simp only [List.getElem?_toArray, List.getElem?_cons_zero, List.getElem?_cons_succ] at k0 k1; clear hown6 hgr6 hc6)
          refine (bsrun_any _ Lb _ g6 N c6 0 _ Hb6.out (by have := Eb.out; omega) (places_pos (u1 % 400) (by simp [Bit.put]) (by have := Eb.out; omega)) (by decide) (by have := HN.out; omega) (by have := HN.out; omega) (by have h := HO6.out; rw [← HN.out] at h ⊢; exact Laid.steps HL.out HL5.out 1 rfl h)).mono ?_
          rintro e w7 ⟨ov, rfl, hRan, hC7⟩
          obtain ⟨bo, co, y0, y1, z0, z1, rfl, g0, g1, l0, l1, hI1, hI2⟩ := hRan.val
          obtain ⟨A1, n1, c1, he⟩ := hI1.shape
          simp only [Value.agg.injEq, Array.mk.injEq, List.cons.injEq, and_true] at he
          obtain ⟨rfl, rfl⟩ := he
          obtain ⟨A2, n2, c2, he⟩ := hI2.shape
          simp only [Value.agg.injEq, Array.mk.injEq, List.cons.injEq, and_true] at he
          obtain ⟨rfl, rfl⟩ := he
          have hK : m + 1 + 1 = N := HN.out
          obtain ⟨K, hKN⟩ : ∃ K, K = N - 1 := ⟨_, rfl⟩
          rw [show 2 * (N - 1) = K * 2 by omega] at l0 l1
          have HC7 := Lib.hid ((HC4.out.trans HC6.out).trans hC7)
          have Hb7 := Lib.hid (Hb6.out.keep hC7)
          have HI7 := Lib.hid hI1
          have HJ7 := Lib.hid hI2
          have qk0 := hC7.cellAt k0
          have qk1 := hC7.cellAt k1
          clear k0 k1
          have k0 := qk0
          have k1 := qk1
          obtain ⟨t, ht, ht0⟩ : ∃ t, Bit.cnt (Bit.put ga (u1 % 400) true) Lb = t ∧ 0 < t := ⟨_, rfl, cnt_pos' (u1 % 400) (by simp [Bit.put]) (by have := Eb.out; omega)⟩
          have HT := Lib.hid ht
          have i1 : (0 : Int) ≤ IntKind.i64.wrap ((N : Int) - 1) := by rw [IntWalk.i64_in _ (by omega)]; omega
          have i2 : (IntKind.i64.wrap ((N : Int) - 1)).toNat = K := by rw [IntWalk.i64_in _ (by omega)]; omega
          have i3 : IntKind.i64.wrap ((N : Int) - 1) < (N : Int) := by rw [IntWalk.i64_in _ (by omega)]; omega
          have i4 : (0 : Int) < (N : Int) := by omega
          have i5 : 0 < N := by omega
          clear hK hKN
          clear hC7 hI1 hI2 hRan qk0 qk1 HC4 HC6 Hb6 Hb HO6 Bv HBv ht HCh HL HO HL5 hown
          go_wp2_with fail
          go_region_held3 (fun w' => w'.cell? ⟨b9, 0, none⟩ = some (.int .u64 (Lb : Nat)) ∧ w'.cell? ⟨b9, 1, none⟩ = some (.slice Ab nb cb) ∧ w'.cell? ⟨bo, 0, none⟩ = some (.int .u64 (Lb : Nat)) ∧ w'.cell? ⟨bo, 1, none⟩ = some (.slice A1 n1 c1) ∧ w'.cell? ⟨bo, K * 2, none⟩ = some (.int .u64 (Lb : Nat)) ∧ w'.cell? ⟨bo, K * 2 + 1, none⟩ = some (.slice A2 n2 c2))
            (first | ((try dsimp only); (repeat' apply And.intro) <;> assumption) | (go_keep; done))
            (first
              | (go_at_call 30
                 (with_reducible refine (bscount_t _ _ _ _ (Hb7.out.keep (by first | exact Ch.refl _ _ | exact (Ch.refl _ _).alloc _ | exact (Ch.refl _ _).drew | exact ((Ch.refl _ _).alloc _).alloc _ | exact ((Ch.refl _ _).alloc _).drew | exact (((Ch.refl _ _).alloc _).alloc _).alloc _ | exact (((Ch.refl _ _).alloc _).alloc _).drew | exact ((((Ch.refl _ _).alloc _).alloc _).alloc _).drew | exact ((((Ch.refl _ _).alloc _).alloc _).alloc _).alloc _ | exact (((((Ch.refl _ _).alloc _).alloc _).alloc _).alloc _).drew)) t HT.out).mono ?_)
                 rintro e w8 ⟨rfl, hC⟩
                 have hCC : Ch S0 w7 w8 := Ch.trans (by first | exact Ch.refl _ _ | exact (Ch.refl _ _).alloc _ | exact (Ch.refl _ _).drew | exact ((Ch.refl _ _).alloc _).alloc _ | exact ((Ch.refl _ _).alloc _).drew | exact (((Ch.refl _ _).alloc _).alloc _).alloc _ | exact (((Ch.refl _ _).alloc _).alloc _).drew | exact ((((Ch.refl _ _).alloc _).alloc _).alloc _).drew | exact ((((Ch.refl _ _).alloc _).alloc _).alloc _).alloc _ | exact (((((Ch.refl _ _).alloc _).alloc _).alloc _).alloc _).drew) hC
                 have HC8 := Lib.hid (HC7.out.trans hCC)
                 have Hb8 := Lib.hid (Hb7.out.keep hCC)
                 have HI8 := Lib.hid (HI7.out.keep hCC)
                 have HJ8 := Lib.hid (HJ7.out.keep hCC)
                 have qk0 := hCC.cellAt k0
                 clear k0
                 have k0 := qk0
                 clear qk0
                 have qk1 := hCC.cellAt k1
                 clear k1
                 have k1 := qk1
                 clear qk1
                 have qg0 := hCC.cellAt g0
                 clear g0
                 have g0 := qg0
                 clear qg0
                 have qg1 := hCC.cellAt g1
                 clear g1
                 have g1 := qg1
                 clear qg1
                 have ql0 := hCC.cellAt l0
                 clear l0
                 have l0 := ql0
                 clear ql0
                 have ql1 := hCC.cellAt l1
                 clear l1
                 have l1 := ql1
                 clear ql1
                 clear hC hCC)
              | (go_at_call 16
                 (with_reducible refine (bssame_true _ _ Lb _ _ (HI8.out.keep (by first | exact Ch.refl _ _ | exact (Ch.refl _ _).alloc _ | exact (Ch.refl _ _).drew | exact ((Ch.refl _ _).alloc _).alloc _ | exact ((Ch.refl _ _).alloc _).drew | exact (((Ch.refl _ _).alloc _).alloc _).alloc _ | exact (((Ch.refl _ _).alloc _).alloc _).drew | exact ((((Ch.refl _ _).alloc _).alloc _).alloc _).drew | exact ((((Ch.refl _ _).alloc _).alloc _).alloc _).alloc _ | exact (((((Ch.refl _ _).alloc _).alloc _).alloc _).alloc _).drew)) (Hb8.out.keep (by first | exact Ch.refl _ _ | exact (Ch.refl _ _).alloc _ | exact (Ch.refl _ _).drew | exact ((Ch.refl _ _).alloc _).alloc _ | exact ((Ch.refl _ _).alloc _).drew | exact (((Ch.refl _ _).alloc _).alloc _).alloc _ | exact (((Ch.refl _ _).alloc _).alloc _).drew | exact ((((Ch.refl _ _).alloc _).alloc _).alloc _).drew | exact ((((Ch.refl _ _).alloc _).alloc _).alloc _).alloc _ | exact (((((Ch.refl _ _).alloc _).alloc _).alloc _).alloc _).drew))).mono ?_)
                 rintro e w9 ⟨rfl, hC⟩
                 have hCC : Ch S0 w8 w9 := Ch.trans (by first | exact Ch.refl _ _ | exact (Ch.refl _ _).alloc _ | exact (Ch.refl _ _).drew | exact ((Ch.refl _ _).alloc _).alloc _ | exact ((Ch.refl _ _).alloc _).drew | exact (((Ch.refl _ _).alloc _).alloc _).alloc _ | exact (((Ch.refl _ _).alloc _).alloc _).drew | exact ((((Ch.refl _ _).alloc _).alloc _).alloc _).drew | exact ((((Ch.refl _ _).alloc _).alloc _).alloc _).alloc _ | exact (((((Ch.refl _ _).alloc _).alloc _).alloc _).alloc _).drew) hC
                 have HC9 := Lib.hid (HC8.out.trans hCC)
                 have Hb9 := Lib.hid (Hb8.out.keep hCC)
                 have HI9 := Lib.hid (HI8.out.keep hCC)
                 have HJ9 := Lib.hid (HJ8.out.keep hCC)
                 have qk0 := hCC.cellAt k0
                 clear k0
                 have k0 := qk0
                 clear qk0
                 have qk1 := hCC.cellAt k1
                 clear k1
                 have k1 := qk1
                 clear qk1
                 have qg0 := hCC.cellAt g0
                 clear g0
                 have g0 := qg0
                 clear qg0
                 have qg1 := hCC.cellAt g1
                 clear g1
                 have g1 := qg1
                 clear qg1
                 have ql0 := hCC.cellAt l0
                 clear l0
                 have l0 := ql0
                 clear ql0
                 have ql1 := hCC.cellAt l1
                 clear l1
                 have l1 := ql1
                 clear ql1
                 clear hC hCC)
              | (go_at_call 16
                 (with_reducible refine (bssame_true _ _ Lb _ _ (HJ9.out.keep (by first | exact Ch.refl _ _ | exact (Ch.refl _ _).alloc _ | exact (Ch.refl _ _).drew | exact ((Ch.refl _ _).alloc _).alloc _ | exact ((Ch.refl _ _).alloc _).drew | exact (((Ch.refl _ _).alloc _).alloc _).alloc _ | exact (((Ch.refl _ _).alloc _).alloc _).drew | exact ((((Ch.refl _ _).alloc _).alloc _).alloc _).drew | exact ((((Ch.refl _ _).alloc _).alloc _).alloc _).alloc _ | exact (((((Ch.refl _ _).alloc _).alloc _).alloc _).alloc _).drew)) (Hb9.out.keep (by first | exact Ch.refl _ _ | exact (Ch.refl _ _).alloc _ | exact (Ch.refl _ _).drew | exact ((Ch.refl _ _).alloc _).alloc _ | exact ((Ch.refl _ _).alloc _).drew | exact (((Ch.refl _ _).alloc _).alloc _).alloc _ | exact (((Ch.refl _ _).alloc _).alloc _).drew | exact ((((Ch.refl _ _).alloc _).alloc _).alloc _).drew | exact ((((Ch.refl _ _).alloc _).alloc _).alloc _).alloc _ | exact (((((Ch.refl _ _).alloc _).alloc _).alloc _).alloc _).drew))).mono ?_)
                 rintro e w10 ⟨rfl, hC⟩
                 have hCC : Ch S0 w9 w10 := Ch.trans (by first | exact Ch.refl _ _ | exact (Ch.refl _ _).alloc _ | exact (Ch.refl _ _).drew | exact ((Ch.refl _ _).alloc _).alloc _ | exact ((Ch.refl _ _).alloc _).drew | exact (((Ch.refl _ _).alloc _).alloc _).alloc _ | exact (((Ch.refl _ _).alloc _).alloc _).drew | exact ((((Ch.refl _ _).alloc _).alloc _).alloc _).drew | exact ((((Ch.refl _ _).alloc _).alloc _).alloc _).alloc _ | exact (((((Ch.refl _ _).alloc _).alloc _).alloc _).alloc _).drew) hC
                 have HC10 := Lib.hid (HC9.out.trans hCC)
                 have Hb10 := Lib.hid (Hb9.out.keep hCC)
                 have HI10 := Lib.hid (HI9.out.keep hCC)
                 have HJ10 := Lib.hid (HJ9.out.keep hCC)
                 have qk0 := hCC.cellAt k0
                 clear k0
                 have k0 := qk0
                 clear qk0
                 have qk1 := hCC.cellAt k1
                 clear k1
                 have k1 := qk1
                 clear qk1
                 have qg0 := hCC.cellAt g0
                 clear g0
                 have g0 := qg0
                 clear qg0
                 have qg1 := hCC.cellAt g1
                 clear g1
                 have g1 := qg1
                 clear qg1
                 have ql0 := hCC.cellAt l0
                 clear l0
                 have l0 := ql0
                 clear ql0
                 have ql1 := hCC.cellAt l1
                 clear l1
                 have l1 := ql1
                 clear ql1
                 clear hC hCC))
          go_wp2
          go_ret
          exact ⟨rfl, HC10.out⟩
        · clear hgo
          have HO := Lib.hid hown
          have HL := Lib.hid hlaid
          have HCh := Lib.hid hch
          have hwr := hch.size
          have hbl := own_lt hown
          have HL5 := Lib.hid hown.1
          clear hlaid hch
          go_wp2_with (at_builtin; go_loud (refine appStep_at rfl _ _ rfl (b9 + 1) (m + 1) (.slice (some ⟨bl, 0, none⟩) (m + 1 : Nat) c) xs rfl hown 14 1 0 0 0 rfl (by omega) (by omega) ?_); intro g6 c6 w6 hown6 hgr6; generalize hN : m + 1 + 1 = N at *; have HN := Lib.hid hN; clear hN; have hc6 := HCh.out.trans' (grew (S := S0) hgr6) (fun k hk hs => by cases hs; omega); have HO6 := Lib.hid hown6; have HC6 := Lib.hid hc6; have Bv := Lib.hid (HBv.out.keep hc6 (fun h => h)); have Hb6 := Lib.hid (Hb.out.keep hc6); have k0 := Bv.out.cell 0; have k1 := Bv.out.cell 1; simp only [List.getElem?_toArray, List.getElem?_cons_zero, List.getElem?_cons_succ] at k0 k1; clear hown6 hgr6 hc6)
          refine (bsrun_any _ Lb _ g6 N c6 0 _ Hb6.out (by have := Eb.out; omega) (places_pos (u1 % 400) (by simp [Bit.put]) (by have := Eb.out; omega)) (by decide) (by have := HN.out; omega) (by have := HN.out; omega) (by have h := HO6.out; rw [← HN.out] at h ⊢; exact Laid.steps HL.out HL5.out 1 rfl h)).mono ?_
          rintro e w7 ⟨ov, rfl, hRan, hC7⟩
          obtain ⟨bo, co, y0, y1, z0, z1, rfl, g0, g1, l0, l1, hI1, hI2⟩ := hRan.val
          obtain ⟨A1, n1, c1, he⟩ := hI1.shape
          simp only [Value.agg.injEq, Array.mk.injEq, List.cons.injEq, and_true] at he
          obtain ⟨rfl, rfl⟩ := he
          obtain ⟨A2, n2, c2, he⟩ := hI2.shape
          simp only [Value.agg.injEq, Array.mk.injEq, List.cons.injEq, and_true] at he
          obtain ⟨rfl, rfl⟩ := he
          have hK : m + 1 + 1 = N := HN.out
          obtain ⟨K, hKN⟩ : ∃ K, K = N - 1 := ⟨_, rfl⟩
          rw [show 2 * (N - 1) = K * 2 by omega] at l0 l1
          have HC7 := Lib.hid ((HC4.out.trans HC6.out).trans hC7)
          have Hb7 := Lib.hid (Hb6.out.keep hC7)
          have HI7 := Lib.hid hI1
          have HJ7 := Lib.hid hI2
          have qk0 := hC7.cellAt k0
          have qk1 := hC7.cellAt k1
          clear k0 k1
          have k0 := qk0
          have k1 := qk1
          obtain ⟨t, ht, ht0⟩ : ∃ t, Bit.cnt (Bit.put ga (u1 % 400) true) Lb = t ∧ 0 < t := ⟨_, rfl, cnt_pos' (u1 % 400) (by simp [Bit.put]) (by have := Eb.out; omega)⟩
          have HT := Lib.hid ht
          have i1 : (0 : Int) ≤ IntKind.i64.wrap ((N : Int) - 1) := by rw [IntWalk.i64_in _ (by omega)]; omega
          have i2 : (IntKind.i64.wrap ((N : Int) - 1)).toNat = K := by rw [IntWalk.i64_in _ (by omega)]; omega
          have i3 : IntKind.i64.wrap ((N : Int) - 1) < (N : Int) := by rw [IntWalk.i64_in _ (by omega)]; omega
          have i4 : (0 : Int) < (N : Int) := by omega
          have i5 : 0 < N := by omega
          clear hK hKN
          clear hC7 hI1 hI2 hRan qk0 qk1 HC4 HC6 Hb6 Hb HO6 Bv HBv ht HCh HL HO HL5 hown
          go_wp2_with fail
          go_region_held3 (fun w' => w'.cell? ⟨b9, 0, none⟩ = some (.int .u64 (Lb : Nat)) ∧ w'.cell? ⟨b9, 1, none⟩ = some (.slice Ab nb cb) ∧ w'.cell? ⟨bo, 0, none⟩ = some (.int .u64 (Lb : Nat)) ∧ w'.cell? ⟨bo, 1, none⟩ = some (.slice A1 n1 c1) ∧ w'.cell? ⟨bo, K * 2, none⟩ = some (.int .u64 (Lb : Nat)) ∧ w'.cell? ⟨bo, K * 2 + 1, none⟩ = some (.slice A2 n2 c2))
            (first | ((try dsimp only); (repeat' apply And.intro) <;> assumption) | (go_keep; done))
            (first
              | (go_at_call 30
                 (with_reducible refine (bscount_t _ _ _ _ (Hb7.out.keep (by first | exact Ch.refl _ _ | exact (Ch.refl _ _).alloc _ | exact (Ch.refl _ _).drew | exact ((Ch.refl _ _).alloc _).alloc _ | exact ((Ch.refl _ _).alloc _).drew | exact (((Ch.refl _ _).alloc _).alloc _).alloc _ | exact (((Ch.refl _ _).alloc _).alloc _).drew | exact ((((Ch.refl _ _).alloc _).alloc _).alloc _).drew | exact ((((Ch.refl _ _).alloc _).alloc _).alloc _).alloc _ | exact (((((Ch.refl _ _).alloc _).alloc _).alloc _).alloc _).drew)) t HT.out).mono ?_)
                 rintro e w8 ⟨rfl, hC⟩
                 have hCC : Ch S0 w7 w8 := Ch.trans (by first | exact Ch.refl _ _ | exact (Ch.refl _ _).alloc _ | exact (Ch.refl _ _).drew | exact ((Ch.refl _ _).alloc _).alloc _ | exact ((Ch.refl _ _).alloc _).drew | exact (((Ch.refl _ _).alloc _).alloc _).alloc _ | exact (((Ch.refl _ _).alloc _).alloc _).drew | exact ((((Ch.refl _ _).alloc _).alloc _).alloc _).drew | exact ((((Ch.refl _ _).alloc _).alloc _).alloc _).alloc _ | exact (((((Ch.refl _ _).alloc _).alloc _).alloc _).alloc _).drew) hC
                 have HC8 := Lib.hid (HC7.out.trans hCC)
                 have Hb8 := Lib.hid (Hb7.out.keep hCC)
                 have HI8 := Lib.hid (HI7.out.keep hCC)
                 have HJ8 := Lib.hid (HJ7.out.keep hCC)
                 have qk0 := hCC.cellAt k0
                 clear k0
                 have k0 := qk0
                 clear qk0
                 have qk1 := hCC.cellAt k1
                 clear k1
                 have k1 := qk1
                 clear qk1
                 have qg0 := hCC.cellAt g0
                 clear g0
                 have g0 := qg0
                 clear qg0
                 have qg1 := hCC.cellAt g1
                 clear g1
                 have g1 := qg1
                 clear qg1
                 have ql0 := hCC.cellAt l0
                 clear l0
                 have l0 := ql0
                 clear ql0
                 have ql1 := hCC.cellAt l1
                 clear l1
                 have l1 := ql1
                 clear ql1
                 clear hC hCC)
              | (go_at_call 16
                 (with_reducible refine (bssame_true _ _ Lb _ _ (HI8.out.keep (by first | exact Ch.refl _ _ | exact (Ch.refl _ _).alloc _ | exact (Ch.refl _ _).drew | exact ((Ch.refl _ _).alloc _).alloc _ | exact ((Ch.refl _ _).alloc _).drew | exact (((Ch.refl _ _).alloc _).alloc _).alloc _ | exact (((Ch.refl _ _).alloc _).alloc _).drew | exact ((((Ch.refl _ _).alloc _).alloc _).alloc _).drew | exact ((((Ch.refl _ _).alloc _).alloc _).alloc _).alloc _ | exact (((((Ch.refl _ _).alloc _).alloc _).alloc _).alloc _).drew)) (Hb8.out.keep (by first | exact Ch.refl _ _ | exact (Ch.refl _ _).alloc _ | exact (Ch.refl _ _).drew | exact ((Ch.refl _ _).alloc _).alloc _ | exact ((Ch.refl _ _).alloc _).drew | exact (((Ch.refl _ _).alloc _).alloc _).alloc _ | exact (((Ch.refl _ _).alloc _).alloc _).drew | exact ((((Ch.refl _ _).alloc _).alloc _).alloc _).drew | exact ((((Ch.refl _ _).alloc _).alloc _).alloc _).alloc _ | exact (((((Ch.refl _ _).alloc _).alloc _).alloc _).alloc _).drew))).mono ?_)
                 rintro e w9 ⟨rfl, hC⟩
                 have hCC : Ch S0 w8 w9 := Ch.trans (by first | exact Ch.refl _ _ | exact (Ch.refl _ _).alloc _ | exact (Ch.refl _ _).drew | exact ((Ch.refl _ _).alloc _).alloc _ | exact ((Ch.refl _ _).alloc _).drew | exact (((Ch.refl _ _).alloc _).alloc _).alloc _ | exact (((Ch.refl _ _).alloc _).alloc _).drew | exact ((((Ch.refl _ _).alloc _).alloc _).alloc _).drew | exact ((((Ch.refl _ _).alloc _).alloc _).alloc _).alloc _ | exact (((((Ch.refl _ _).alloc _).alloc _).alloc _).alloc _).drew) hC
                 have HC9 := Lib.hid (HC8.out.trans hCC)
                 have Hb9 := Lib.hid (Hb8.out.keep hCC)
                 have HI9 := Lib.hid (HI8.out.keep hCC)
                 have HJ9 := Lib.hid (HJ8.out.keep hCC)
                 have qk0 := hCC.cellAt k0
                 clear k0
                 have k0 := qk0
                 clear qk0
                 have qk1 := hCC.cellAt k1
                 clear k1
                 have k1 := qk1
                 clear qk1
                 have qg0 := hCC.cellAt g0
                 clear g0
                 have g0 := qg0
                 clear qg0
                 have qg1 := hCC.cellAt g1
                 clear g1
                 have g1 := qg1
                 clear qg1
                 have ql0 := hCC.cellAt l0
                 clear l0
                 have l0 := ql0
                 clear ql0
                 have ql1 := hCC.cellAt l1
                 clear l1
                 have l1 := ql1
                 clear ql1
                 clear hC hCC)
              | (go_at_call 16
                 (with_reducible refine (bssame_true _ _ Lb _ _ (HJ9.out.keep (by first | exact Ch.refl _ _ | exact (Ch.refl _ _).alloc _ | exact (Ch.refl _ _).drew | exact ((Ch.refl _ _).alloc _).alloc _ | exact ((Ch.refl _ _).alloc _).drew | exact (((Ch.refl _ _).alloc _).alloc _).alloc _ | exact (((Ch.refl _ _).alloc _).alloc _).drew | exact ((((Ch.refl _ _).alloc _).alloc _).alloc _).drew | exact ((((Ch.refl _ _).alloc _).alloc _).alloc _).alloc _ | exact (((((Ch.refl _ _).alloc _).alloc _).alloc _).alloc _).drew)) (Hb9.out.keep (by first | exact Ch.refl _ _ | exact (Ch.refl _ _).alloc _ | exact (Ch.refl _ _).drew | exact ((Ch.refl _ _).alloc _).alloc _ | exact ((Ch.refl _ _).alloc _).drew | exact (((Ch.refl _ _).alloc _).alloc _).alloc _ | exact (((Ch.refl _ _).alloc _).alloc _).drew | exact ((((Ch.refl _ _).alloc _).alloc _).alloc _).drew | exact ((((Ch.refl _ _).alloc _).alloc _).alloc _).alloc _ | exact (((((Ch.refl _ _).alloc _).alloc _).alloc _).alloc _).drew))).mono ?_)
                 rintro e w10 ⟨rfl, hC⟩
                 have hCC : Ch S0 w9 w10 := Ch.trans (by first | exact Ch.refl _ _ | exact (Ch.refl _ _).alloc _ | exact (Ch.refl _ _).drew | exact ((Ch.refl _ _).alloc _).alloc _ | exact ((Ch.refl _ _).alloc _).drew | exact (((Ch.refl _ _).alloc _).alloc _).alloc _ | exact (((Ch.refl _ _).alloc _).alloc _).drew | exact ((((Ch.refl _ _).alloc _).alloc _).alloc _).drew | exact ((((Ch.refl _ _).alloc _).alloc _).alloc _).alloc _ | exact (((((Ch.refl _ _).alloc _).alloc _).alloc _).alloc _).drew) hC
                 have HC10 := Lib.hid (HC9.out.trans hCC)
                 have Hb10 := Lib.hid (Hb9.out.keep hCC)
                 have HI10 := Lib.hid (HI9.out.keep hCC)
                 have HJ10 := Lib.hid (HJ9.out.keep hCC)
                 have qk0 := hCC.cellAt k0
                 clear k0
                 have k0 := qk0
                 clear qk0
                 have qk1 := hCC.cellAt k1
                 clear k1
                 have k1 := qk1
                 clear qk1
                 have qg0 := hCC.cellAt g0
                 clear g0
                 have g0 := qg0
                 clear qg0
                 have qg1 := hCC.cellAt g1
                 clear g1
                 have g1 := qg1
                 clear qg1
                 have ql0 := hCC.cellAt l0
                 clear l0
                 have l0 := ql0
                 clear ql0
                 have ql1 := hCC.cellAt l1
                 clear l1
                 have l1 := ql1
                 clear ql1
                 clear hC hCC))
          go_wp2
          go_ret
          exact ⟨rfl, HC10.out⟩
end Go.Proofs.Ytgnhmgnpmbmjcaa
