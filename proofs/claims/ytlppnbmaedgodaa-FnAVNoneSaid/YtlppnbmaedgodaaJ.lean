/- WALKS: entries come into a tree, one by one; a tree is asked for entries. -/
import Derived.Test.YtlppnbmaedgodaaH
import Derived.Test.YtlppnbmaedgodaaE3
import Derived.Laws.MakeOwn
namespace Go.Proofs.Ytlppnbmaedgodaa
open Go.RowKit
set_option linter.unusedVariables false
set_option linter.unusedSimpArgs false

theorem insert_all (cp : Nat) (t : T) (key val : Int) (w : World) (h : Imm w cp t) (hf : t.toL.length < 100000) : Calls Try.prog 28 #[.pointer (some ⟨cp, 0, none⟩), en key val] w fun r w' => InsR w cp t key val r w' := by
  cases t with
  | nil => exact insert_nil cp key val w h
  | node r0 b0 tl tr k0 v0 => exact insert_node cp r0 b0 tl tr k0 v0 key val w h hf
def finL (L : List (Int × Int)) : List (Int × Int) → List (Int × Int)
  | [] => L
  | e :: es => finL (lins e.1 e.2 L) es
def ansI (L : List (Int × Int)) : List (Int × Int) → List (Int × Option Int)
  | [] => []
  | e :: es => (e.1, lget e.1 L) :: ansI (lins e.1 e.2 L) es
def ansG (L es : List (Int × Int)) : List (Int × Option Int) := es.map fun e => (e.1, lget e.1 L)
theorem finL_snoc (e : Int × Int) : ∀ (es L : List (Int × Int)), finL L (es ++ [e]) = lins e.1 e.2 (finL L es)
  | [], L => rfl
  | x :: es, L => finL_snoc e es _
theorem ansI_snoc (e : Int × Int) : ∀ (es L : List (Int × Int)), ansI L (es ++ [e]) = ansI L es ++ [(e.1, lget e.1 (finL L es))]
  | [], L => rfl
  | x :: es, L => by simp only [List.cons_append, ansI, finL, ansI_snoc e es _]
theorem ansI_len : ∀ (es L : List (Int × Int)), (ansI L es).length = es.length
  | [], L => rfl
  | x :: es, L => by simp [ansI, ansI_len es _]
theorem finL_ord : ∀ {es L : List (Int × Int)}, Ord L → Ord (finL L es)
  | [], L, h => h
  | e :: es, L, h => finL_ord (es := es) (L := lins e.1 e.2 L) (lins_ord h)
theorem lins_len (k v : Int) : ∀ L : List (Int × Int), (lins k v L).length ≤ L.length + 1
  | [] => by simp [lins]
  | (k', v') :: L => by
    unfold lins
    split
    · simp
    · split
      · simp
      · have := lins_len k v L
        simp only [List.length_cons]
        omega
theorem finL_len : ∀ (es L : List (Int × Int)), (finL L es).length ≤ L.length + es.length
  | [], L => by simp [finL]
  | e :: es, L => by
    have h1 := finL_len es (lins e.1 e.2 L)
    have h2 := lins_len e.1 e.2 L
    simp only [finL, List.length_cons]
    omega
/-- Entries, answers as values. -/
def pv (es : List (Int × Int)) : List Value := es.map fun p => en p.1 p.2
def av (an : List (Int × Option Int)) : List Value := an.map fun p => oldE p.1 p.2
theorem av_snoc (an : List (Int × Option Int)) (p : Int × Option Int) : av (an ++ [p]) = av an ++ [oldE p.1 p.2] := by simp [av]
theorem pv_at {es : List (Int × Int)} {i : Nat} {p : Int × Int} (h : es[i]? = some p) : (pv es)[i]? = some (en p.1 p.2) := by simp [pv, h]
theorem take_one {α : Type} {a : List α} {i : Nat} {x : α} (h : a[i]? = some x) : a.take (i + 1) = a.take i ++ [x] := by rw [List.take_add_one, h]; rfl
theorem elE : EL Try.prog 55 66 1 16 := EL.of (z := .nilIface) Try.underlying55 (by kernel_rfl) rfl (by decide)
theorem elE0 : EL Try.prog 54 66 1 16 := EL.of (z := .nilIface) Try.underlying54 (by kernel_rfl) rfl (by decide)
/-- The row's own block begins with an answer. -/
def NotN (w : World) (v : Value) : Prop := ∀ g, v.ownBlock = some g → ∃ u, w.cell? ⟨g, 0, none⟩ = some u ∧ (∀ b, u ≠ .int .i8 b) ∧ (∀ p, u ≠ .pointer p)
theorem NotN.keep {S : Nat → Prop} {w w' : World} {v : Value} (h : NotN w v) (hc : Ch S w w') (hs : ∀ g, v.ownBlock = some g → ¬ S g) : NotN w' v := fun g hg => by
  obtain ⟨u, h1, h2⟩ := h g hg
  exact ⟨u, by rw [World.cell?_of_block (w := w) (hc.block g (World.block_lt_of_cell? w _ h1) (hs g hg))]; exact h1, h2⟩
theorem rep_c0 {w : World} : ∀ {t : T}, Rep w t → ∀ x ∈ t.bl, ∃ b, w.cell? ⟨x, 0, none⟩ = some (.int .i8 b)
  | .node a b l r k v, ⟨h1, h2, h3⟩, x, hx => by
    simp only [T.bl, List.mem_cons, List.mem_append] at hx
    rcases hx with rfl | hx | hx
    · exact ⟨b, h1.cell 0⟩
    · exact rep_c0 h2 x hx
    · exact rep_c0 h3 x hx
theorem apart1 {w : World} {cp : Nat} {t : T} {v : Value} (h : Imm w cp t) (hv : NotN w v) {g : Nat} (hg : v.ownBlock = some g) : g ≠ cp ∧ g ∉ t.bl := by
  obtain ⟨u, h1, h2, h3⟩ := hv g hg
  refine ⟨fun e => ?_, fun e => ?_⟩
  · subst e
    have := h.blk.cell 0
    rw [h1] at this
    exact h3 _ (Option.some.inj this)
  · obtain ⟨b, hb⟩ := rep_c0 h.rep g e
    rw [h1] at hb
    exact h2 _ (Option.some.inj hb)
theorem apart2 {w : World} {cp : Nat} {t : T} {v : Value} (h : Imm w cp t) (hv : NotN w v) {g : Nat} (hg : v.ownBlock = some g) : ¬ SI cp t.adr g := by
  obtain ⟨h1, h2⟩ := apart1 h hv hg
  rintro (e | e)
  · exact h1 e
  · exact h2 (T.adr_bl e)
theorem notN_row {w : World} {base n : Nat} {v : Value} {xs : List Value} (h : w.ownsRow base 66 1 v (n + 1) xs) (hx : ∀ x ∈ xs, (∀ b, x ≠ .int .i8 b) ∧ (∀ p, x ≠ .pointer p)) : NotN w v := fun g hg => by
  obtain ⟨A, cap, rfl, hr, _, h3, h4, h5⟩ := own_rd h
  rcases h4 with h4 | ⟨b, rfl⟩
  · omega
  · cases hg
    have hl : 0 < xs.length := by omega
    obtain ⟨b', o', e, hc⟩ := hr 0 _ (List.getElem?_eq_getElem hl)
    cases e
    exact ⟨_, hc, hx _ (List.getElem_mem hl)⟩
theorem oldE_not (k : Int) (o : Option Int) : (∀ b, oldE k o ≠ .int .i8 b) ∧ (∀ p, oldE k o ≠ .pointer p) := by
  cases o <;> exact ⟨fun b h => (by cases h), fun p h => (by cases h)⟩
theorem av_not (an : List (Int × Option Int)) : ∀ x ∈ av an, (∀ b, x ≠ .int .i8 b) ∧ (∀ p, x ≠ .pointer p) := fun x hx => by
  obtain ⟨p, _, rfl⟩ := List.mem_map.1 hx
  exact oldE_not _ _
/-- What an Insert hands back. -/
def InsAll (w : World) (t : T) (es : List (Int × Int)) (n : Nat) (r : Ending) (w' : World) : Prop :=
  ∃ cp' t' v, r = .returned (.tuple #[.pointer (some ⟨cp', 0, none⟩), v]) ∧ Imm w' cp' t' ∧ w.heap.size ≤ cp' ∧ t'.toL = finL t.toL es ∧ w'.ownsRow w.heap.size 66 1 v n (av (ansI t.toL es)) ∧ (∀ x ∈ t'.bl, x ∈ t.bl ∨ w.heap.size ≤ x)
/-- The loop of Insert. -/
def InsL (w : World) (t : T) (es : List (Int × Int)) (n cp' : Nat) (v6 v22 : Value) (wr : World) : Prop :=
  ∃ i t', i ≤ n ∧ v22 = .int .i64 i ∧ Imm wr cp' t' ∧ t'.toL = finL t.toL (es.take i) ∧ wr.ownsRow w.heap.size 66 1 v6 i (av (ansI t.toL (es.take i))) ∧ NotN wr v6 ∧ (∀ x ∈ t'.bl, x ∈ t.bl ∨ w.heap.size ≤ x) ∧ (∀ a, t'.adr = some a → w.heap.size ≤ a) ∧ Ch S0 w wr
theorem insl_step {w wr wi wa : World} {t t1 t2 : T} {es : List (Int × Int)} {n i cp' : Nat} {k v : Int} {v6 v' : Value} (hcp : w.heap.size ≤ cp') (hi : i + 1 ≤ n) (hx : es[i]? = some (k, v))
    (hI : Imm wr cp' t1) (hl : t1.toL = finL t.toL (es.take i)) (hN : NotN wr v6) (hb : ∀ x ∈ t1.bl, x ∈ t.bl ∨ w.heap.size ≤ x) (ha : ∀ a, t1.adr = some a → w.heap.size ≤ a) (hC : Ch S0 w wr)
    (hI2 : Imm wi cp' t2) (hl2 : t2.toL = lins k v t1.toL) (hC2 : Ch (SI cp' t1.adr) wr wi) (ha2 : ∀ a, t2.adr = some a → t1.adr = some a ∨ wr.heap.size ≤ a) (hb2 : ∀ x ∈ t2.bl, x ∈ t1.bl ∨ wr.heap.size ≤ x)
    (hO : wa.ownsRow w.heap.size 66 1 v' (i + 1) (av (ansI t.toL (es.take i)) ++ [oldE k (lget k t1.toL)])) (hC3 : Ch (fun g => v6.ownBlock = some g) wi wa) (hlt : ∀ g, v6.ownBlock = some g → w.heap.size ≤ g) : InsL w t es n cp' v' (.int .i64 ((i + 1 : Nat) : Int)) wa := by
  have hNi : NotN wi v6 := hN.keep hC2 (fun g hg => apart2 hI hN hg)
  have hs := hC.size
  have hs2 := hC2.size
  have hT : ansI t.toL (es.take (i + 1)) = ansI t.toL (es.take i) ++ [(k, lget k t1.toL)] := by rw [take_one hx, ansI_snoc, hl]
  have hO' : wa.ownsRow w.heap.size 66 1 v' (i + 1) (av (ansI t.toL (es.take (i + 1)))) := by rw [hT, av_snoc]; exact hO
  refine ⟨i + 1, t2, hi, rfl, hI2.keep hC3 (fun e => (apart1 hI2 hNi e).1 rfl) (fun x hx e => (apart1 hI2 hNi e).2 hx), ?_, hO', notN_row hO' (av_not _), fun x hx => ?_, fun a ha' => ?_, ?_⟩
  · rw [take_one hx, finL_snoc, hl2, hl]
  · rcases hb2 x hx with h | h
    · exact hb x h
    · exact Or.inr (by omega)
  · rcases ha2 a ha' with h | h
    · exact ha a h
    · omega
  · refine (hC.trans' hC2 ?_).trans' hC3 ?_
    · rintro j hj (e | e)
      · omega
      · have := ha j e; omega
    · intro j hj e
      have := hlt j e
      omega
set_option maxRecDepth 100000 in
set_option maxHeartbeats 8000000 in
theorem Insert_any (cp : Nat) (t : T) (A : Option Addr) (n c : Nat) (es : List (Int × Int)) (w : World) (h : Imm w cp t) (hl : es.length = n) (hn0 : 0 < n) (hn : n ≤ 1000) (hf : t.toL.length ≤ 1000) (hA : Rd w A (pv es)) :
    Calls Try.prog 21 #[.pointer (some ⟨cp, 0, none⟩), .slice A n c] w fun r w' => InsAll w t es n r w' ∧ Ch S0 w w' := by
  have hmk : (Instr.makeSlice 55 (.int .i64 0) (.int .i64 (n : Int))).run Try.prog w = .ok (.slice (some ⟨w.heap.size, 0, none⟩) 0 n) (w.alloc (.cells (Array.replicate n .nilIface) 66)) := make_one (bytes := 16) (z := .nilIface) Try.underlying55 (by kernel_rfl) rfl .i64 .i64 0 n (Nat.zero_le _) (by omega) (by omega) w
  obtain ⟨w2, hw2⟩ : ∃ w2, w2 = w.alloc (.cells (Array.replicate n .nilIface) 66) := ⟨_, rfl⟩
  have hO2 : w2.ownsRow w.heap.size 66 1 (.slice (some ⟨w.heap.size, 0, none⟩) 0 n) 0 [] := by
    have h1 := World.ownsRow_made w (e := 66) (size := 1) (base := w.heap.size) (Array.replicate n .nilIface) n (by omega) (by unfold maxLen; omega) (by simp)
    rw [hw2]
    exact h1
  have hN2 : NotN w2 (.slice (some ⟨w.heap.size, 0, none⟩) 0 n) := fun g hg => by
    cases hg
    refine ⟨.nilIface, ?_, fun b h => (by cases h), fun p h => (by cases h)⟩
    rw [hw2]
    have := (Blk.new w (Array.replicate n .nilIface) 66).cell 0
    rw [this]
    simp [hn0]
  have hC2 : Ch S0 w w2 := by rw [hw2]; exact (Ch.refl _ _).alloc _
  have hlen : ¬ (n : Int) = 0 := by omega
  have HO2 := Lib.hid hO2
  have HN2 := Lib.hid hN2
  have HC2 := Lib.hid hC2
  have HW2 := Lib.hid hw2
  have HL := Lib.hid hl
  have HA := Lib.hid hA
  have HI := Lib.hid h
  have HF := Lib.hid hf
  clear hO2 hC2 hw2 hl hA h hN2 hf
  go_enter Try.func21, Try.ntmps21
  go_wp2_with (go_at_call 27; rw [← HW2.out]; refine (copyI_any cp t w2 (HI.out.keep HC2.out (fun h => h) (fun _ _ h => h))).mono ?_; rintro r w3 ⟨cp', t', rfl, hcp, hI3, hl3, hC3, ha3, hb3⟩; have HI3 := Lib.hid hI3; have HL3 := Lib.hid hl3; have HC3 := Lib.hid hC3; have HA3 := Lib.hid ha3; have HB3 := Lib.hid hb3; have HCp := Lib.hid hcp; clear hI3 hl3 hC3 ha3 hb3 hcp)
  have hs2 := HC2.out.size
  have HIL : Hid (InsL w t es n cp' (.slice (some ⟨w.heap.size, 0, none⟩) 0 n) (.int .i64 0) w3) := Lib.hid ⟨0, t', by omega, rfl, HI3.out, by rw [HL3.out]; rfl, own_keep0 HO2.out HC3.out, HN2.out.keep HC3.out (fun _ _ h => h), fun x hx => (HB3.out x hx).imp id (fun h => by omega), fun a ha => by have := HA3.out a ha; omega, HC2.out.trans HC3.out⟩
  have HCp := Lib.hid (Nat.le_trans hs2 HCp.out)
  clear hmk hs2
  go_loopw [6, 22] (fun v6 v22 wr => InsL w t es n cp' v6 v22 wr) (fun _ vi _ => n - (intOf vi).toNat)
  case atStart => exact HIL.out
  case round =>
    obtain ⟨i, t1, hi, rfl, hI, hl, hO, hN, hb, ha, hC⟩ := hrel
    have HI1 := Lib.hid hI
    have HL1 := Lib.hid hl
    have HO1 := Lib.hid hO
    have HN1 := Lib.hid hN
    have HB1 := Lib.hid hb
    have HA1 := Lib.hid ha
    have HC1 := Lib.hid hC
    clear hI hl hO hN hb ha hC HIL
    by_cases hlt : i < n
    · have hlti : (i : Int) < (n : Nat) := by omega
      have hi0 : (0 : Int) ≤ (i : Nat) := by omega
      obtain ⟨⟨k, v⟩, hx⟩ : ∃ x, es[i]? = some x := ⟨es[i]'(by have := HL.out; omega), by simp [HL.out, hlt]⟩
      obtain ⟨q, o, e, c0⟩ := (HA.out.keep0 HC1.out).at (pv_at hx)
      subst e
      have HX := Lib.hid hx
      have HF1 : Hid (t1.toL.length < 100000) := Lib.hid (by rw [HL1.out]; have h1 := finL_len (es.take i) t.toL; have h2 := HF.out; have h3 := HL.out; rw [List.length_take] at h1; omega)
      simp only [en] at c0
      obtain ⟨ox, hox⟩ : ∃ ox, lget k t1.toL = ox := ⟨_, rfl⟩
      have HOx := Lib.hid hox
      clear hx hox
      cases ox with
      | none =>
        go_wp2_with (first | (change Calls Try.prog 28 #[.pointer (some ⟨cp', 0, none⟩), en k v] _ _; refine (insert_all cp' t1 k v _ HI1.out HF1.out).mono ?_; rintro r wi ⟨t2, e, g1, g2, g3, g4, g5⟩; rw [HOx.out] at e; subst e; simp only [oldE]; have G1 := Lib.hid g1; have G2 := Lib.hid g2; have G3 := Lib.hid g3; have G4 := Lib.hid g4; have G5 := Lib.hid g5; have HOi := Lib.hid (own_keepS HO1.out g3 (fun g hg => apart2 HI1.out HN1.out hg)); have hsz := Nat.le_trans HC1.out.size g3.size; clear g1 g2 g3 g4 g5) | (at_builtin; go_loud (refine app_own elE rfl (.tmp 26) (.tmp 30) rfl w.heap.size i u6 (av (ansI t.toL (es.take i))) rfl HOi.out [.nilIface] rfl (by simp [Value.oneCell']) wi.heap.size rfl rfl (by unfold maxLen; omega) (by omega) hsz ?_); intro v' w4 hown4 hc4 hb4; have HOw := Lib.hid hown4; have HC4 := Lib.hid hc4; clear hown4 hc4 hb4))
        go_roundw
        case rel => exact insl_step HCp.out (by omega) HX.out HI1.out HL1.out HN1.out HB1.out HA1.out HC1.out G1.out G2.out G3.out G4.out G5.out (by rw [HOx.out]; exact HOw.out) HC4.out (fun g hg => (own_lt HO1.out g hg).1)
        case measure => simp [intOf]; omega
      | some ov =>
        go_wp2_with (first | (change Calls Try.prog 28 #[.pointer (some ⟨cp', 0, none⟩), en k v] _ _; refine (insert_all cp' t1 k v _ HI1.out HF1.out).mono ?_; rintro r wi ⟨t2, e, g1, g2, g3, g4, g5⟩; rw [HOx.out] at e; subst e; simp only [oldE, en]; have G1 := Lib.hid g1; have G2 := Lib.hid g2; have G3 := Lib.hid g3; have G4 := Lib.hid g4; have G5 := Lib.hid g5; have HOi := Lib.hid (own_keepS HO1.out g3 (fun g hg => apart2 HI1.out HN1.out hg)); have hsz := Nat.le_trans HC1.out.size g3.size; clear g1 g2 g3 g4 g5) | (at_builtin; go_loud (refine app_own elE rfl (.tmp 26) (.tmp 30) rfl w.heap.size i u6 (av (ansI t.toL (es.take i))) rfl HOi.out [.iface 73 (.agg #[.int .i64 k, .int .i64 ov])] rfl (by simp [Value.oneCell']) wi.heap.size rfl rfl (by unfold maxLen; omega) (by omega) hsz ?_); intro v' w4 hown4 hc4 hb4; have HOw := Lib.hid hown4; have HC4 := Lib.hid hc4; clear hown4 hc4 hb4))
        go_roundw
        case rel => exact insl_step HCp.out (by omega) HX.out HI1.out HL1.out HN1.out HB1.out HA1.out HC1.out G1.out G2.out G3.out G4.out G5.out (by rw [HOx.out]; exact HOw.out) HC4.out (fun g hg => (own_lt HO1.out g hg).1)
        case measure => simp [intOf]; omega
    · have hin : ¬ (i : Int) < (n : Nat) := by omega
      have hie : i = n := by omega
      go_wp2_with fail
      go_ret2
      have hT : es.take i = es := by rw [hie, ← HL.out, List.take_length]
      have hO := HO1.out
      rw [hT, hie] at hO
      refine ⟨⟨cp', t1, _, rfl, HI1.out, HCp.out, by rw [HL1.out, hT], hO, HB1.out⟩, HC1.out⟩
theorem ansG_snoc (L es : List (Int × Int)) (e : Int × Int) : ansG L (es ++ [e]) = ansG L es ++ [(e.1, lget e.1 L)] := by simp [ansG]
set_option maxRecDepth 100000 in
set_option maxHeartbeats 8000000 in
theorem Get_any (cp : Nat) (t : T) (A : Option Addr) (n c : Nat) (es : List (Int × Int)) (w : World) (h : Imm w cp t) (hl : es.length = n) (hn : n ≤ 1000) (hA : Rd w A (pv es)) :
    Calls Try.prog 24 #[.pointer (some ⟨cp, 0, none⟩), .slice A n c] w fun r w' => ∃ v, r = .returned v ∧ w'.ownsRow w.heap.size 66 1 v n (av (ansG t.toL es)) ∧ Ch S0 w w' := by
  have hmk : (Instr.makeSlice 55 (.int .i64 0) (.int .i64 (n : Int))).run Try.prog w = .ok (.slice (some ⟨w.heap.size, 0, none⟩) 0 n) (w.alloc (.cells (Array.replicate n .nilIface) 66)) := make_one (bytes := 16) (z := .nilIface) Try.underlying55 (by kernel_rfl) rfl .i64 .i64 0 n (Nat.zero_le _) (by omega) (by omega) w
  obtain ⟨w2, hw2⟩ : ∃ w2, w2 = w.alloc (.cells (Array.replicate n .nilIface) 66) := ⟨_, rfl⟩
  have hO2 : w2.ownsRow w.heap.size 66 1 (.slice (some ⟨w.heap.size, 0, none⟩) 0 n) 0 [] := by
    have h1 := World.ownsRow_made w (e := 66) (size := 1) (base := w.heap.size) (Array.replicate n .nilIface) n (by omega) (by unfold maxLen; omega) (by simp)
    rw [hw2]
    exact h1
  have hC2 : Ch S0 w w2 := by rw [hw2]; exact (Ch.refl _ _).alloc _
  have HO2 := Lib.hid hO2
  have HC2 := Lib.hid hC2
  have HW2 := Lib.hid hw2
  have HL := Lib.hid hl
  have HA := Lib.hid hA
  have HI := Lib.hid h
  clear hO2 hC2 hw2 hl hA h
  go_enter Try.func24, Try.ntmps24
  go_wp2_with fail
  rw [← HW2.out]
  go_loopw [5, 13] (fun vo vi wr => ∃ i : Nat, i ≤ n ∧ vi = .int .i64 i ∧ wr.ownsRow w.heap.size 66 1 vo i (av (ansG t.toL (es.take i))) ∧ Ch S0 w wr) (fun _ vi _ => n - (intOf vi).toNat)
  case atStart => exact ⟨0, by omega, rfl, HO2.out, HC2.out⟩
  case round =>
    obtain ⟨i, hi, rfl, hO, hC⟩ := hrel
    have HO1 := Lib.hid hO
    have HC1 := Lib.hid hC
    clear hO hC
    by_cases hlt : i < n
    · have hlti : (i : Int) < (n : Nat) := by omega
      have hi0 : (0 : Int) ≤ (i : Nat) := by omega
      obtain ⟨⟨k, v⟩, hx⟩ : ∃ x, es[i]? = some x := ⟨es[i]'(by have := HL.out; omega), by simp [HL.out, hlt]⟩
      obtain ⟨q, o, e, c0⟩ := (HA.out.keep0 HC1.out).at (pv_at hx)
      subst e
      have HT : Hid (ansG t.toL (es.take (i + 1)) = ansG t.toL (es.take i) ++ [(k, lget k t.toL)]) := Lib.hid (by rw [take_one hx, ansG_snoc])
      simp only [en] at c0
      obtain ⟨ox, hox⟩ : ∃ ox, lget k t.toL = ox := ⟨_, rfl⟩
      have HOx := Lib.hid hox
      clear hx hox
      cases ox with
      | none =>
        go_wp2_with (first | (change Calls Try.prog 30 #[.pointer (some ⟨cp, 0, none⟩), en k v] _ _; refine (get_any cp t k v _ (HI.out.keep HC1.out (fun h => h) (fun _ _ h => h))).mono ?_; rintro r wi ⟨e, hC⟩; rw [HOx.out] at e; subst e; simp only [oldE]; have HOi := Lib.hid (own_keep0 HO1.out hC); have hsz := Nat.le_trans HC1.out.size hC.size; have HCi := Lib.hid (HC1.out.trans hC); clear hC) | (at_builtin; go_loud (refine app_own elE rfl (.tmp 17) (.tmp 21) rfl w.heap.size i u5 (av (ansG t.toL (es.take i))) rfl HOi.out [.nilIface] rfl (by simp [Value.oneCell']) wi.heap.size rfl rfl (by unfold maxLen; omega) (by omega) hsz ?_); intro v' w4 hown4 hc4 hb4; have HOw := Lib.hid hown4; have HC4 := Lib.hid hc4; clear hown4 hc4 hb4))
        go_roundw
        case rel => exact ⟨i + 1, by omega, by go_num, by rw [HT.out, av_snoc]; simp only [HOx.out]; exact HOw.out, HCi.out.trans' HC4.out (fun j hj e => absurd (own_lt HO1.out j e).1 (by omega))⟩
        case measure => simp [intOf]; omega
      | some ov =>
        go_wp2_with (first | (change Calls Try.prog 30 #[.pointer (some ⟨cp, 0, none⟩), en k v] _ _; refine (get_any cp t k v _ (HI.out.keep HC1.out (fun h => h) (fun _ _ h => h))).mono ?_; rintro r wi ⟨e, hC⟩; rw [HOx.out] at e; subst e; simp only [oldE, en]; have HOi := Lib.hid (own_keep0 HO1.out hC); have hsz := Nat.le_trans HC1.out.size hC.size; have HCi := Lib.hid (HC1.out.trans hC); clear hC) | (at_builtin; go_loud (refine app_own elE rfl (.tmp 17) (.tmp 21) rfl w.heap.size i u5 (av (ansG t.toL (es.take i))) rfl HOi.out [.iface 73 (.agg #[.int .i64 k, .int .i64 ov])] rfl (by simp [Value.oneCell']) wi.heap.size rfl rfl (by unfold maxLen; omega) (by omega) hsz ?_); intro v' w4 hown4 hc4 hb4; have HOw := Lib.hid hown4; have HC4 := Lib.hid hc4; clear hown4 hc4 hb4))
        go_roundw
        case rel => exact ⟨i + 1, by omega, by go_num, by rw [HT.out, av_snoc]; simp only [HOx.out]; exact HOw.out, HCi.out.trans' HC4.out (fun j hj e => absurd (own_lt HO1.out j e).1 (by omega))⟩
        case measure => simp [intOf]; omega
    · have hin : ¬ (i : Int) < (n : Nat) := by omega
      have hie : i = n := by omega
      go_wp2_with fail
      go_ret
      have hT : es.take i = es := by rw [hie, ← HL.out, List.take_length]
      have hO := HO1.out
      rw [hT, hie] at hO
      exact ⟨_, rfl, hO, HC1.out⟩
end Go.Proofs.Ytlppnbmaedgodaa
