/- WALKS: plain data of bitsets: set64, said64. -/
import Derived.Test.YtdkhanfapgnjoaaDoorWc
namespace Go.Proofs.YtdkhanfapgnjoaaDoor
open Go.RowKit
set_option linter.unusedVariables false
set_option linter.unusedSimpArgs false

/-- A slice of uint that reads as xs. -/
def Lst (base : Nat) (w : World) (v : Value) (xs : List Nat) : Prop :=
  ∃ A cap, v = .slice A xs.length cap ∧ ∀ j (hj : j < xs.length), ∃ b o, base ≤ b ∧ A = some ⟨b, o, none⟩ ∧ w.cell? ⟨b, o + j, none⟩ = some (.int .u64 (xs[j] : Nat))

theorem Lst.keep {base : Nat} {w w' : World} {v : Value} {xs : List Nat} (h : Lst base w v xs) (hc : Ch S0 w w') : Lst base w' v xs := by
  obtain ⟨A, cap, h1, h2⟩ := h
  refine ⟨A, cap, h1, fun j hj => ?_⟩
  obtain ⟨b, o, hb, h3, h4⟩ := h2 j hj
  exact ⟨b, o, hb, h3, by rw [World.cell?_of_block (w := w) (hc.block b (World.block_lt_of_cell? w _ h4) (fun h => h))]; exact h4⟩

theorem Lst.mono {base base' : Nat} {w : World} {v : Value} {xs : List Nat} (h : Lst base w v xs) (hb : base' ≤ base) : Lst base' w v xs := by
  obtain ⟨A, cap, h1, h2⟩ := h
  exact ⟨A, cap, h1, fun j hj => by obtain ⟨b, o, h3, h4⟩ := h2 j hj; exact ⟨b, o, Nat.le_trans hb h3, h4⟩⟩
theorem Lst.set {base : Nat} {w : World} {v : Value} {xs : List Nat} (h : Lst base w v xs) {a : Addr} (ha : a.block < base) (u : Value) : Lst base (w.setCell a u) v xs := by
  obtain ⟨A, cap, h1, h2⟩ := h
  refine ⟨A, cap, h1, fun j hj => ?_⟩
  obtain ⟨b, o, h3, h4, h5⟩ := h2 j hj
  exact ⟨b, o, h3, h4, by rw [World.cell?_setCell_other _ _ _ _ (by intro e; subst e; simp at ha; omega)]; exact h5⟩

/-- The places of a bitset. -/
def places (g : Nat → Bool) (L : Nat) : List Nat := (List.range L).filter g

theorem places_succ (g : Nat → Bool) (m : Nat) : places g (m + 1) = places g m ++ if g m then [m] else [] := by
  unfold places
  rw [List.range_succ, List.filter_append]
  congr 1
  cases h : g m <;> simp [h]

theorem places_len (g : Nat → Bool) (L : Nat) : (places g L).length ≤ L := by
  have := List.length_filter_le g (List.range L)
  simpa [places] using this

/-- A value that is a bitset as plain data. -/
structure IsB (base : Nat) (w : World) (v : Value) (L : Nat) (g : Nat → Bool) : Prop where
  small : L ≤ 20000
  off : ∀ k, L ≤ k → g k = false
  val : ∃ inv, v = .agg #[.int .u64 L, inv] ∧ Lst base w inv (places g L)

theorem IsB.keep {base : Nat} {w w' : World} {v : Value} {L : Nat} {g : Nat → Bool} (h : IsB base w v L g) (hc : Ch S0 w w') : IsB base w' v L g := by
  obtain ⟨h0, h1, inv, h2, h3⟩ := h
  exact ⟨h0, h1, inv, h2, h3.keep hc⟩
theorem IsB.mono {base base' : Nat} {w : World} {v : Value} {L : Nat} {g : Nat → Bool} (h : IsB base w v L g) (hb : base' ≤ base) : IsB base' w v L g := by
  obtain ⟨h0, h1, inv, h2, h3⟩ := h
  exact ⟨h0, h1, inv, h2, h3.mono hb⟩
theorem IsB.set {base : Nat} {w : World} {v : Value} {L : Nat} {g : Nat → Bool} (h : IsB base w v L g) {a : Addr} (ha : a.block < base) (u : Value) : IsB base (w.setCell a u) v L g := by
  obtain ⟨h0, h1, inv, h2, h3⟩ := h
  exact ⟨h0, h1, inv, h2, h3.set ha u⟩
theorem IsB.shape {base : Nat} {w : World} {v : Value} {L : Nat} {g : Nat → Bool} (h : IsB base w v L g) : ∃ A n cap, v = .agg #[.int .u64 L, .slice A n cap] := by
  obtain ⟨h0, h1, inv, rfl, A, cap, rfl, h3⟩ := h
  exact ⟨A, _, cap, rfl⟩

/-- set64 behind m rounds. -/
def SetInv (W wr : World) (b L : Nat) (xs : List Nat) (m : Nat) : Prop :=
  ∃ sb, BS wr b sb L (fun p => decide (p ∈ xs.take m)) ∧ W.heap.size ≤ b ∧ W.heap.size ≤ sb ∧ Ch S0 W wr

theorem SetInv.step {W wr w' : World} {b sb L : Nat} {xs : List Nat} {m : Nat} (hm : m < xs.length) (h2 : W.heap.size ≤ b) (h3 : W.heap.size ≤ sb) (h4 : Ch S0 W wr) (hx : xs[m] < L)
    (hO : Out wr w' b sb (max L (xs[m] + 1)) (Bit.put (fun p => decide (p ∈ xs.take m)) xs[m] true)) : SetInv W w' b L xs (m + 1) := by
  obtain ⟨sb', k1, k2, k3⟩ := hO
  refine ⟨sb', ?_, h2, by rcases k2 with e | e <;> have := h4.size <;> omega, h4.trans' k3 (fun i hi hs => ?_)⟩
  · rw [Nat.max_eq_left (by omega)] at k1
    have e : (fun p => decide (p ∈ xs.take (m + 1))) = Bit.put (fun p => decide (p ∈ xs.take m)) xs[m] true := by
      funext p
      have : (p ∈ xs.take (m + 1)) = (p ∈ xs.take m ∨ p = xs[m]) := by rw [List.take_succ_eq_append_getElem hm]; simp only [List.mem_append, List.mem_singleton]
      unfold Bit.put
      simp only [this]
      by_cases hp : p = xs[m] <;> simp [hp]
    rw [e]; exact k1
  · rcases hs with e | e <;> omega

theorem mem_places (g : Nat → Bool) (L : Nat) (hoff : ∀ k, L ≤ k → g k = false) : (fun p => decide (p ∈ places g L)) = g := by
  funext p
  unfold places
  simp only [List.mem_filter, List.mem_range]
  by_cases hp : p < L
  · simp [hp]
  · simp [hp, hoff p (by omega)]

theorem places_lt {g : Nat → Bool} {L : Nat} {j : Nat} (hj : j < (places g L).length) : (places g L)[j] < L := by
  have := List.getElem_mem hj
  unfold places at this
  simp only [List.mem_filter, List.mem_range] at this
  exact this.1

set_option maxHeartbeats 400000 in
/-- set64: a new bitset of plain data. -/
theorem set64_any {base : Nat} (v : Value) (L : Nat) (g : Nat → Bool) (w : World) (h : IsB base w v L g) :
    Calls Tryd.prog 12 #[v] w fun e w' => ∃ b sb, e = .returned (.pointer (some ⟨b, 0, none⟩)) ∧ BS w' b sb L g ∧ w.heap.size ≤ b ∧ w.heap.size ≤ sb ∧ Ch S0 w w' := by
  obtain ⟨h0, hoff, inv, rfl, A, cap, rfl, hA⟩ := h
  have hpl := places_len g L
  have hmp := Lib.hid (mem_places g L hoff)
  have hlt : ∀ j (hj : j < (places g L).length), (places g L)[j] < L := fun j hj => places_lt hj
  generalize hxs : places g L = xs at *
  clear hoff hxs
  have HA := Lib.hid hA
  have HL := Lib.hid hlt
  clear hA hlt
  go_enter Tryd.func12, Tryd.ntmps12
  go_wp2_with fail
  refine (new_any L (by omega) _).mono ?_
  rintro e w1 ⟨b, sb, rfl, hB, hb1, hb2, hC⟩
  have hC' : Ch S0 w w1 := ((Ch.refl _ _).alloc _).trans hC
  simp at hb1 hb2
  have hI : SetInv w w1 b L xs 0 := ⟨sb, by simpa using hB, by omega, by omega, hC'⟩
  have k1 : w1.cell? ⟨w.heap.size, 1, none⟩ = some (.slice A xs.length cap) := by
    have := (Blk.new w #[.int .u64 L, .slice A xs.length cap] 25).keep hC (fun h => h)
    rw [this.cell]; rfl
  clear hB hC hC'
  go_wp2_with fail
  go_loopw [12] (fun k wr => ∃ m : Nat, m ≤ xs.length ∧ k = .int .i64 m ∧ SetInv w wr b L xs m) (fun k _ => xs.length - (intOf k).toNat)
  case atStart => exact ⟨0, Nat.zero_le _, rfl, hI⟩
  case round =>
    obtain ⟨m, hm, rfl, hJ⟩ := hrel
    by_cases hlt : m < xs.length
    · obtain ⟨sb1, hB1, hs1, hs2, hch⟩ := hJ
      obtain ⟨b', o', _, hA1, hcell⟩ := HA.out m hlt
      have hcell2 : wr.cell? ⟨b', o' + m, none⟩ = some (.int .u64 (xs[m] : Nat)) := by
        rw [World.cell?_of_block (w := w) (hch.block b' (World.block_lt_of_cell? w _ hcell) (fun h => h))]; exact hcell
      have hxL := HL.out m hlt
      have HB := Lib.hid hB1
      have HC := Lib.hid hch
      subst hA1
      clear hB1 hch hcell k1
      go_wp2_with fail
      refine (set_any b sb1 L xs[m] _ _ HB.out (by omega) (by omega) _ rfl).mono ?_
      rintro e w2 ⟨rfl, hO⟩
      have HO := Lib.hid hO
      clear hO
      go_wp2_with fail
      go_roundw
      case rel => exact ⟨m + 1, by omega, by go_num, SetInv.step hlt hs1 hs2 HC.out hxL HO.out⟩
      case measure => simp [intOf]; omega
    · have hm2 : m = xs.length := by omega
      subst hm2
      obtain ⟨sb1, hB1, hs1, hs2, hch⟩ := hJ
      have HB := Lib.hid hB1
      have HC := Lib.hid hch
      clear hB1 hch
      go_wp2
      go_ret
      refine ⟨b, sb1, rfl, ?_, hs1, hs2, HC.out⟩
      have := HB.out
      rw [List.take_length, hmp.out] at this
      exact this

/-- Out of a step on a bitset: what it says of the plain data made of it. -/
theorem Out.bs {w w' : World} {b sb L : Nat} {g : Nat → Bool} (h : Out w w' b sb L g) : ∃ sb', BS w' b sb' L g := by
  obtain ⟨sb', h, _⟩ := h
  exact ⟨sb', h⟩

theorem Tryd.info22 : (Tryd.prog.info? 22).map (fun i => (i.zero, i.size, i.bytes)) = some (some (.int .u64 0), 1, 8) := by kernel_rfl

set_option maxHeartbeats 400000 in
theorem len_any (b sb L : Nat) (g : Nat → Bool) (w : World) (h : BS w b sb L g) :
    Calls Tryd.prog 24 #[.pointer (some ⟨b, 0, none⟩)] w fun e w' => e = .returned (.int .u64 L) ∧ w = w' := by
  obtain ⟨cap, c0, c1, h4, h5, f0, f1, fs, h6⟩ := h.look
  clear h fs h6
  go_enter Tryd.func24, Tryd.ntmps24
  go_wp2
  go_ret
  exact ⟨rfl, rfl⟩

theorem Ch.grows {w w' : World} (h : Ch S0 w w') : w.grownBy w' none := ⟨h.os, h.tape, h.output, h.size, fun k hk _ => h.block k hk (fun h => h)⟩
theorem Ch.ofGrown {w w' : World} {S : Nat → Prop} {r : Option Nat} (h : w.grownBy w' r) (hr : ∀ k, r = some k → S k) : Ch S w w' :=
  ⟨h.os, h.tape, h.output, h.size, fun k hk hn => h.block k hk fun e => hn (hr k e.symm)⟩
theorem own_keep {w w' : World} {base e size n : Nat} {v : Value} {xs : List Value} (h : w.ownsRow base e size v n xs) (hc : Ch S0 w w') : w'.ownsRow base e size v n xs :=
  h.kept hc.grows (by cases hv : v.ownBlock <;> simp)
theorem own_set {w : World} {base e size n : Nat} {v : Value} {xs : List Value} (h : w.ownsRow base e size v n xs) {a : Addr} (ha : a.block < base) (u : Value) : (w.setCell a u).ownsRow base e size v n xs :=
  ownsRow_setCell_below h ha u

/-- out = append(out, y), out of type []uint, the call's own. -/
theorem app22 {w : World} {ops : Array Oper} {rest : List Oper} {o : Oper} {a : Act} {Q : Exit → Act → World → Prop} (hgd : o.guard = none) (s x : Operand)
    (ho : o.op = .call { callee := .builtin .append, args := #[s, x], argTypes := #[23, 23] }) (base n : Nat) (v : Value) (xs : List Value) (hs : a.eval s = v) (hown : w.ownsRow base 22 1 v n xs)
    (y : Value) (hy : y.oneCell' = true) (hx : a.eval x = .slice (some ⟨w.heap.size, 0, none⟩) 1 1) (hn : n ≤ 1000000) (hb : base ≤ w.heap.size)
    (h : ∀ A n' c w', w'.ownsRow base 22 1 (.slice A n' c) (n + 1) (xs ++ [y]) → (w.alloc (.cells #[y] 22)).grownBy w' v.ownBlock → wpList Tryd.prog ops Q rest (a.put o.dst (.slice A n' c)) w') :
    wpList Tryd.prog ops Q (o :: rest) a (w.alloc (.cells #[y] 22)) := by
  obtain ⟨i0, hi0, hz0, hz1, hz2⟩ := info_parts Tryd.info22
  refine wpList_append_own _ hgd s x 23 ho base 22 i0 (.int .u64 0) 1 8 Tryd.underlying23 hi0 hz0 hz1 hz2 rfl (by decide) v n xs hs (hown.alloc _) ⟨w.heap.size, 0, none⟩ 1 1 [y] hx rfl ?_ ?_ (by unfold maxLen; omega) (by omega) (by simp; omega) ?_
  · intro j u hj
    match j, hj with
    | 0, hj => simp at hj; subst hj; simp [Addr.add]
  · intro u hu
    simp at hu
    subst hu
    exact hy
  · intro v' w' h1 h2 _
    have h1' := h1
    rcases h1.2 with ⟨rfl, _⟩ | ⟨g, cap, cur, rfl, _⟩
    · exact h _ _ _ _ h1' h2
    · exact h _ _ _ _ h1' h2

/-- What holds of old blocks stays, whatever becomes of blocks from B on. -/
def Stays (B : Nat) (X : World → Prop) : Prop := ∀ w w', Ch (fun k => B ≤ k) w w' → X w → X w'

/-- said64 (and BSMake) behind m places: the struct holds what was collected in v. -/
structure SaidInv (W : World) (X : World → Prop) (wr : World) (L : Nat) (g : Nat → Bool) (m : Nat) (v : Value) : Prop where
  res : Blk wr W.heap.size #[.int .u64 0, .slice none 0 0]
  blk : Blk wr (W.heap.size + 1) #[.int .u64 L, v]
  own : wr.ownsRow (W.heap.size + 2) 22 1 v (places g m).length ((places g m).map fun x => Value.int .u64 (x : Nat))
  aux : X wr
  ch : Ch S0 W wr

theorem SaidInv.keep {W : World} {X : World → Prop} {wr w' : World} {L : Nat} {g : Nat → Bool} {m : Nat} {v : Value} (hX : Stays W.heap.size X) (h : SaidInv W X wr L g m v) (hc : Ch S0 wr w') : SaidInv W X w' L g m v :=
  ⟨h.res.keep hc (fun h => h), h.blk.keep hc (fun h => h), own_keep h.own hc, hX _ _ (hc.mono (fun _ _ h => h.elim)) h.aux, h.ch.trans hc⟩

theorem SaidInv.skip {W : World} {X : World → Prop} {wr : World} {L : Nat} {g : Nat → Bool} {m : Nat} {v : Value} (h : SaidInv W X wr L g m v) (hg : g m = false) : SaidInv W X wr L g (m + 1) v := by
  have e : places g (m + 1) = places g m := by rw [places_succ]; simp [hg]
  exact ⟨h.res, h.blk, by rw [e]; exact h.own, h.aux, h.ch⟩

/-- Behind an append: v' owns one number more. -/
theorem SaidInv.grow {W : World} {X : World → Prop} {wr w' : World} {L : Nat} {g : Nat → Bool} {m : Nat} {v v' : Value} (hX : Stays W.heap.size X) (h : SaidInv W X wr L g m v) (hg : g m = true)
    (hown : w'.ownsRow (W.heap.size + 2) 22 1 v' ((places g m).length + 1) (((places g m).map fun x => Value.int .u64 (x : Nat)) ++ [.int .u64 (m : Nat)])) (hgr : (wr.alloc (.cells #[.int .u64 (m : Nat)] 22)).grownBy w' v.ownBlock) :
    (w'.cell? ⟨W.heap.size + 1, 1, none⟩ = some v ∧ w'.frozen? ⟨W.heap.size + 1, 1, none⟩ = false) ∧ SaidInv W X (w'.setCell ⟨W.heap.size + 1, 1, none⟩ v') L g (m + 1) v' := by
  have e : places g (m + 1) = places g m ++ [m] := by rw [places_succ]; simp [hg]
  have hv := h.own.lt
  have hsz := h.ch.size
  have hc : Ch (fun k => W.heap.size + 2 ≤ k) wr w' := ((Ch.refl _ _).alloc _).trans (Ch.ofGrown hgr fun k hk => (hv k hk).1)
  have hb1 := h.blk.keep hc (by simp)
  refine ⟨⟨by rw [hb1.cell]; rfl, hb1.free 1⟩, (h.res.keep hc (by simp)).setOther (by simp) _, ?_, ?_, ?_, (h.ch.trans' hc (fun i hi hs => by omega)).setCell _ (fun hl => by simp at hl; omega) _⟩
  · have := hb1.set 1 v'
    simpa using this
  · have := own_set hown (a := ⟨W.heap.size + 1, 1, none⟩) (by simp) v'
    rw [e]
    simpa using this
  · exact hX _ _ ((Ch.refl _ w').setCell ⟨W.heap.size + 1, 1, none⟩ (fun _ => by simp) _) (hX _ _ (hc.mono fun _ _ h => by omega) h.aux)

theorem own_lst {w : World} {base : Nat} {v : Value} {xs : List Nat} (h : w.ownsRow base 22 1 v xs.length (xs.map fun x => Value.int .u64 (x : Nat))) : Lst base w v xs := by
  obtain ⟨h1, h2⟩ := h
  rcases h2 with ⟨rfl, h2⟩ | ⟨g, cap, cur, rfl, hb, hh, h3, h4, h5, h6⟩
  · refine ⟨none, 0, by rw [h2], fun j hj => by omega⟩
  · refine ⟨_, cap, rfl, fun j hj => ⟨g, 0, hb, rfl, ?_⟩⟩
    have := congrArg (fun l => l[j]?) h6
    simp only [Nat.mul_one, List.getElem?_take, hj, if_true, List.getElem?_map, List.getElem?_eq_getElem hj, Option.map_some] at this
    simp only [World.cell?, hh, Nat.zero_add]
    simpa using this

theorem SaidInv.done {W : World} {X : World → Prop} {wr : World} {L : Nat} {g : Nat → Bool} {v : Value} (h : SaidInv W X wr L g L v) (hL : L ≤ 20000) (hoff : ∀ k, L ≤ k → g k = false) :
    IsB (W.heap.size + 2) ((wr.setCell ⟨W.heap.size, 0, none⟩ (.int .u64 L)).setCell ⟨W.heap.size, 1, none⟩ v) (.agg #[.int .u64 L, v]) L g ∧ Ch S0 W ((wr.setCell ⟨W.heap.size, 0, none⟩ (.int .u64 L)).setCell ⟨W.heap.size, 1, none⟩ v) := by
  refine ⟨⟨hL, hoff, v, rfl, own_lst (base := W.heap.size + 2) (own_set (own_set h.own (by simp) _) (by simp) _)⟩, ?_⟩
  exact (h.ch.setCell _ (fun hl => by simp at hl) _).setCell _ (fun hl => by simp at hl) _

set_option maxHeartbeats 400000 in
/-- said64: the plain data of a bitset. -/
theorem said64_any (b sb L : Nat) (g : Nat → Bool) (w : World) (h : BS w b sb L g) (hL : L ≤ 20000) :
    Calls Tryd.prog 14 #[.pointer (some ⟨b, 0, none⟩)] w fun e w' => ∃ v, e = .returned v ∧ IsB w.heap.size w' v L g ∧ Ch S0 w w' := by
  obtain ⟨i0, hi0, hz0, hz1, hz2⟩ := info_parts Tryd.info22
  have hl := h.lt
  have hX : Stays w.heap.size (fun wr => BS wr b sb L g) := fun w1 w2 hc hb => hb.keep hc (by omega) (by omega)
  have hoff := h.off
  have hI : SaidInv w (fun wr => BS wr b sb L g) ((w.alloc (Obj.cells #[Value.int IntKind.u64 0, Value.slice none 0 0] 25)).alloc (Obj.cells #[Value.int IntKind.u64 ↑L, Value.slice none 0 0] 25)) L g 0 (.slice none 0 0) := by
    have hc : Ch S0 w ((w.alloc (Obj.cells #[Value.int IntKind.u64 0, Value.slice none 0 0] 25)).alloc (Obj.cells #[Value.int IntKind.u64 ↑L, Value.slice none 0 0] 25)) := ((Ch.refl _ _).alloc _).alloc _
    refine ⟨(Blk.new _ _ _).alloc _, ?_, World.ownsRow_nil _ _ _ _, h.keep hc (fun h => h) (fun h => h), hc⟩
    have := Blk.new (w.alloc (Obj.cells #[Value.int IntKind.u64 0, Value.slice none 0 0] 25)) #[Value.int IntKind.u64 ↑L, Value.slice none 0 0] 25
    simpa using this
  have H := Lib.hid h
  have HX := Lib.hid hX
  have HO := Lib.hid hoff
  clear h hX hoff
  go_enter Tryd.func14, Tryd.ntmps14
  go_wp2_with (go_at_call 24; refine (len_any b sb L g _ (H.out.keep (S := S0) ((Ch.refl _ _).alloc _) (fun h => h) (fun h => h))).mono ?_; rintro e w' ⟨rfl, rfl⟩)
  go_loopw [4] (fun k wr => ∃ (m : Nat) (v : Value), m ≤ L ∧ k = .int .u64 m ∧ SaidInv w (fun wr => BS wr b sb L g) wr L g m v) (fun k _ => L - (intOf k).toNat)
  case atStart => exact ⟨0, _, Nat.zero_le _, rfl, hI⟩
  case round =>
    obtain ⟨m, v, hm, rfl, hJ⟩ := hrel
    have c0 : wr.cell? ⟨w.heap.size + 1, 0, none⟩ = some (.int .u64 L) := by rw [hJ.blk.cell]; rfl
    have c1 : wr.cell? ⟨w.heap.size + 1, 1, none⟩ = some v := by rw [hJ.blk.cell]; rfl
    by_cases hlt : m < L
    · have HJ := Lib.hid hJ
      clear hI
      cases hg : g m
      · have T := Lib.hid (test_any b sb L m g wr hJ.aux (by omega) m rfl)
        rw [hg] at T
        have Hg := Lib.hid hg
        clear hg hJ
        go_wp2_with (go_at_call 25; refine T.out.mono ?_; rintro e w2 ⟨rfl, hC2⟩; have HC2 := Lib.hid hC2; clear hC2)
        go_roundw
        case rel => exact ⟨m + 1, v, by omega, by go_num, (HJ.out.keep HX.out HC2.out).skip Hg.out⟩
        case measure => simp [intOf]; omega
      · have T := Lib.hid (test_any b sb L m g wr hJ.aux (by omega) m rfl)
        rw [hg] at T
        have Hg := Lib.hid hg
        clear hg hJ
        go_wp2_with fail
        refine T.out.mono ?_
        rintro e w2 ⟨rfl, hC2⟩
        have hJ2 := HJ.out.keep HX.out hC2
        have k1 : w2.cell? ⟨w.heap.size + 1, 1, none⟩ = some v := by rw [hJ2.blk.cell]; rfl
        have hown := hJ2.own
        have hsz := hJ2.blk.lt
        have hpl := places_len g m
        have HJ2 := Lib.hid hJ2
        clear hC2 hJ2 c0 c1
        go_wp2_with (at_builtin; go_loud (refine app22 rfl _ _ rfl (w.heap.size + 2) _ v _ rfl hown (.int .u64 (m : Nat)) rfl rfl (by omega) (by omega) ?_); intro A' n' c' w3 hown3 hgr3; obtain ⟨⟨q0, q1⟩, hfin⟩ := HJ2.out.grow HX.out Hg.out hown3 hgr3; have HF := Lib.hid hfin; clear hown3 hgr3 hfin)
        go_roundw
        case rel => exact ⟨m + 1, _, by omega, by go_num, HF.out⟩
        case measure => simp [intOf]; omega
    · have hm2 : m = L := by omega
      subst hm2
      have r0 : wr.cell? ⟨w.heap.size, 0, none⟩ = some (.int .u64 0) := by rw [hJ.res.cell]; rfl
      have r1 : wr.cell? ⟨w.heap.size, 1, none⟩ = some (.slice none 0 0) := by rw [hJ.res.cell]; rfl
      have q0 := hJ.res.free 0
      have q1 := hJ.res.free 1
      have HD := Lib.hid (hJ.done hL HO.out)
      obtain ⟨A, n, c, rfl⟩ : ∃ A n c, v = .slice A n c := by
        rcases hJ.own.2 with ⟨rfl, _⟩ | ⟨g, cap, cur, rfl, _⟩ <;> exact ⟨_, _, _, rfl⟩
      clear hJ hI
      go_wp2
      exact bodyPost_ret (v := .agg #[.int .u64 m, .slice A n c]) (by simp [results, Tryd.results14, go_sem, r0, r1, q0, q1]) rfl ⟨_, rfl, HD.out.1.mono (by omega), HD.out.2⟩

end Go.Proofs.YtdkhanfapgnjoaaDoor
