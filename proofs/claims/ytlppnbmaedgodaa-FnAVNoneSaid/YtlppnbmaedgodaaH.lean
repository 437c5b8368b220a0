/- WALKS: a tree is made, copied, asked. -/
import Derived.Test.YtlppnbmaedgodaaE6
namespace Go.Proofs.Ytlppnbmaedgodaa
open Go.RowKit
set_option linter.unusedVariables false
set_option linter.unusedSimpArgs false

theorem lget_lt {k kk vv : Int} {l r : List (Int × Int)} (ho : Ord (l ++ (kk, vv) :: r)) (h : k < kk) : lget k (l ++ (kk, vv) :: r) = lget k l := by
  have h1 := (List.pairwise_append.1 ho).2.1
  have h2 : lget k ((kk, vv) :: r) = none := lget_none _ _ fun x hx => by
    rcases List.mem_cons.1 hx with e | hx
    · subst e; show kk ≠ k; omega
    · have := (List.pairwise_cons.1 h1).1 x hx; simp only at this; omega
  clear ho h1
  induction l with
  | nil => exact h2
  | cons y l ih =>
    obtain ⟨a, b⟩ := y
    simp only [List.cons_append, lget, ih]
theorem lget_gt {k kk vv : Int} {l r : List (Int × Int)} (ho : Ord (l ++ (kk, vv) :: r)) (h : kk < k) : lget k (l ++ (kk, vv) :: r) = lget k r := by
  have h1 := (List.pairwise_append.1 ho).2.2
  rw [lget_app k l _ (fun x hx => by have := h1 x hx (kk, vv) (by simp); simp only at this; omega)]
  simp only [lget]
  rw [if_neg (by omega)]
theorem lget_at {kk vv : Int} {l r : List (Int × Int)} (ho : Ord (l ++ (kk, vv) :: r)) : lget kk (l ++ (kk, vv) :: r) = some vv := by
  have h1 := (List.pairwise_append.1 ho).2.2
  rw [lget_app kk l _ (fun x hx => by have := h1 x hx (kk, vv) (by simp); simp only at this; omega)]
  simp [lget]
theorem ord_l {l r : List (Int × Int)} {x : Int × Int} (ho : Ord (l ++ x :: r)) : Ord l := (List.pairwise_append.1 ho).1
theorem ord_r {l r : List (Int × Int)} {x : Int × Int} (ho : Ord (l ++ x :: r)) : Ord r := (List.pairwise_cons.1 (List.pairwise_append.1 ho).2.1).2
/-- On the way down to a key. -/
def G1 (w0 : World) (key : Int) (o : Option Int) (kx : Nat) (v : Value) (wr : World) : Prop :=
  ∃ P : T, v = .pointer (ad P.adr) ∧ P.size = kx ∧ Rep wr P ∧ lget key P.toL = o ∧ Ord P.toL ∧ Ch S0 w0 wr
set_option maxHeartbeats 4000000 in
set_option maxRecDepth 100000 in
theorem get_any (cp : Nat) (t : T) (key val : Int) (w : World) (h : Imm w cp t) :
    Calls Try.prog 30 #[.pointer (some ⟨cp, 0, none⟩), en key val] w fun r w' => r = .returned (oldE key (lget key t.toL)) ∧ Ch S0 w w' := by
  have c0 := h.blk.cell 0
  simp only [List.getElem?_toArray, List.getElem?_cons_zero, List.getElem?_cons_succ] at c0
  obtain ⟨p0, hp0⟩ : ∃ p, ad t.adr = p := ⟨_, rfl⟩
  rw [hp0] at c0
  have HP0 := Lib.hid hp0
  have HR := Lib.hid h.rep
  have HO := Lib.hid h.ord
  obtain ⟨o, ho⟩ : ∃ o, lget key t.toL = o := ⟨_, rfl⟩
  rw [ho]
  have HG := Lib.hid ho
  clear h ho hp0
  unfold en
  go_enter Try.func30, Try.ntmps30
  go_wp2_with fail
  go_loopg [5] t.size (fun kx v5 wr => G1 w key o kx v5 wr)
  case atStart => exact ⟨t, by rw [HP0.out], rfl, HR.out, HG.out, HO.out, Ch.refl _ _⟩
  case round =>
    obtain ⟨P, rfl, hk, hR, hg, hO, hC⟩ := hrel
    have HK := Lib.hid hk
    have HRr := Lib.hid hR
    have HGr := Lib.hid hg
    have HOr := Lib.hid hO
    have HCr := Lib.hid hC
    clear hk hR hg hO hC c0
    cases P with
    | nil =>
      simp only [T.adr, ad, Option.map_none]
      go_wp2_with fail
      go_ret
      exact ⟨by rw [← HGr.out]; rfl, HCr.out⟩
    | node a b l r kk vv =>
      have c3 := HRr.out.1.cell 3
      simp only [ncell, en, List.getElem?_toArray, List.getElem?_cons_zero, List.getElem?_cons_succ] at c3
      simp only [T.adr, ad, Option.map_some]
      rcases Int.lt_trichotomy kk key with hlt | heq | hgt
      · have HOo := Lib.hid (ord_lt hlt)
        have HL := Lib.hid hlt
        clear hlt
        go_wp2_with (change Calls Try.prog 61 #[.agg #[.int .i64 kk, .int .i64 vv], en key val] _ _; refine (compare_to kk vv key val (-1) HOo.out _).mono ?_; rintro r5 w5 ⟨rfl, hC⟩; have z1 := HRr.out.keep hC (fun _ _ h => h); have q1 := z1.1.cell 1; have q2 := z1.1.cell 2; have q3 := z1.1.cell 3; simp only [ncell, en, List.getElem?_toArray, List.getElem?_cons_zero, List.getElem?_cons_succ] at q1 q2 q3; have HZ := Lib.hid z1; have HC5 := Lib.hid hC; clear hC z1)
        go_roundg r.size
        case rel => exact ⟨r, rfl, rfl, HZ.out.2.2, by rw [← HGr.out]; exact (lget_gt HOr.out HL.out).symm, ord_r HOr.out, HCr.out.trans HC5.out⟩
        case measure => have := HK.out; simp only [T.size] at this; omega
      · subst heq
        have HOo := Lib.hid (ord_eq (rfl : kk = kk))
        go_wp2_with (change Calls Try.prog 61 #[.agg #[.int .i64 kk, .int .i64 vv], en kk val] _ _; refine (compare_to kk vv kk val 0 HOo.out _).mono ?_; rintro r5 w5 ⟨rfl, hC⟩; have z1 := HRr.out.keep hC (fun _ _ h => h); have q1 := z1.1.cell 1; have q2 := z1.1.cell 2; have q3 := z1.1.cell 3; simp only [ncell, en, List.getElem?_toArray, List.getElem?_cons_zero, List.getElem?_cons_succ] at q1 q2 q3; have HZ := Lib.hid z1; have HC5 := Lib.hid hC; clear hC z1)
        go_ret
        exact ⟨by rw [← HGr.out, show (T.node a b l r kk vv).toL = l.toL ++ (kk, vv) :: r.toL from rfl, lget_at HOr.out]; rfl, HCr.out.trans HC5.out⟩
      · have HOo := Lib.hid (ord_gt hgt)
        have HL := Lib.hid hgt
        clear hgt
        go_wp2_with (change Calls Try.prog 61 #[.agg #[.int .i64 kk, .int .i64 vv], en key val] _ _; refine (compare_to kk vv key val 1 HOo.out _).mono ?_; rintro r5 w5 ⟨rfl, hC⟩; have z1 := HRr.out.keep hC (fun _ _ h => h); have q1 := z1.1.cell 1; have q2 := z1.1.cell 2; have q3 := z1.1.cell 3; simp only [ncell, en, List.getElem?_toArray, List.getElem?_cons_zero, List.getElem?_cons_succ] at q1 q2 q3; have HZ := Lib.hid z1; have HC5 := Lib.hid hC; clear hC z1)
        go_roundg l.size
        case rel => exact ⟨l, rfl, rfl, HZ.out.2.1, by rw [← HGr.out]; exact (lget_lt HOr.out HL.out).symm, ord_l HOr.out, HCr.out.trans HC5.out⟩
        case measure => have := HK.out; simp only [T.size] at this; omega
theorem len_any (cp : Nat) (t : T) (w : World) (h : Imm w cp t) : Calls Try.prog 31 #[.pointer (some ⟨cp, 0, none⟩)] w fun r w' => r = .returned (.int .u64 (t.toL.length : Nat)) ∧ w' = w := by
  have c1 := h.blk.cell 1
  simp only [List.getElem?_toArray, List.getElem?_cons_zero, List.getElem?_cons_succ] at c1
  clear h
  go_enter Try.func31, Try.ntmps31
  go_wp2_with fail
  go_ret
  exact ⟨rfl, rfl⟩
set_option maxRecDepth 100000 in
theorem init_any (cp : Nat) (w : World) (h : Blk w cp #[.pointer none, .int .u64 0, .int .i8 0, .pointer none, .pointer none, .nilIface]) : Calls Try.prog 26 #[.pointer (some ⟨cp, 0, none⟩)] w fun r w' => r = .returned (.tuple #[]) ∧ Blk w' cp #[.pointer none, .int .u64 0, .int .i8 0, .pointer none, .pointer none, .nilIface] ∧ Ch (S1 cp) w w' := by
  have c2 := h.cell 2
  have c3 := h.cell 3
  have c4 := h.cell 4
  have c5 := h.cell 5
  have f2 := h.free 2
  have f3 := h.free 3
  have f4 := h.free 4
  have f5 := h.free 5
  simp only [List.getElem?_toArray, List.getElem?_cons_zero, List.getElem?_cons_succ] at c2 c3 c4 c5
  have HB := Lib.hid h
  clear h
  go_enter Try.func26, Try.ntmps26
  go_wp2_with fail
  refine bodyPost_end (results_none rfl _ _ _) rfl ?_
  refine ⟨rfl, ?_, ?_⟩
  · have := (((HB.out.set 2 (.int .i8 0)).set 3 (.pointer none)).set 4 (.pointer none)).set 5 .nilIface
    simpa using this
  · exact Ch.setCell (S := S1 cp) (Ch.setCell (S := S1 cp) (Ch.setCell (S := S1 cp) (Ch.setCell (S := S1 cp) (Ch.refl _ w) ⟨cp, 2, none⟩ (fun _ => rfl) _) ⟨cp, 3, none⟩ (fun _ => rfl) _) ⟨cp, 4, none⟩ (fun _ => rfl) _) ⟨cp, 5, none⟩ (fun _ => rfl) _
set_option maxRecDepth 100000 in
theorem newI_any (w : World) : Calls Try.prog 20 #[] w fun r w' => ∃ cp, r = .returned (.pointer (some ⟨cp, 0, none⟩)) ∧ w.heap.size ≤ cp ∧ Imm w' cp .nil ∧ Ch S0 w w' := by
  have HB := Lib.hid (Blk.new w #[.pointer none, .int .u64 0, .int .i8 0, .pointer none, .pointer none, .nilIface] 70)
  go_enter Try.func20, Try.ntmps20
  go_wp2_with (go_at_call 26; refine (init_any w.heap.size _ HB.out).mono ?_; rintro r w2 ⟨rfl, hb, hC⟩; have HB2 := Lib.hid hb; have HC2 := Lib.hid hC; clear hb hC)
  go_ret
  refine ⟨_, rfl, Nat.le_refl _, ⟨HB2.out, trivial, by simp [T.bl], trivial, by simp [T.toL, Ord], by simp [T.bl], by simp [T.toL]⟩, ?_⟩
  exact ((Ch.refl S0 w).alloc _).trans' HC2.out (fun i hi e => by have e : i = w.heap.size := e; omega)
theorem copy_nil_end {w w2 : World} {n : Nat} (hn : n = 0) (hC : Ch S0 w.drew w2) : ∃ cp' t', Ending.returned (.pointer (some ⟨w2.heap.size, 0, none⟩)) = .returned (.pointer (some ⟨cp', 0, none⟩)) ∧ w.heap.size ≤ cp' ∧ Imm (w2.alloc (.cells #[.pointer none, .int .u64 n, .int .i8 0, .pointer none, .pointer none, .nilIface] 70)) cp' t' ∧ t'.toL = T.nil.toL ∧ Ch S0 w (w2.alloc (.cells #[.pointer none, .int .u64 n, .int .i8 0, .pointer none, .pointer none, .nilIface] 70)) ∧ (∀ a, t'.adr = some a → w.heap.size ≤ a) ∧ (∀ x ∈ t'.bl, x ∈ T.nil.bl ∨ w.heap.size ≤ x) := by
  subst hn
  refine ⟨w2.heap.size, .nil, rfl, hC.size, ⟨Blk.new w2 _ _, trivial, by simp [T.bl], trivial, by simp [T.toL, Ord], by simp [T.bl], by simp [T.toL]⟩, rfl, ?_, fun a h => (by cases h), fun x h => (by cases h)⟩
  exact (((Ch.refl S0 w).drew).trans hC).alloc _
theorem copy_node_end {w w1 w2 : World} {n cp r0 : Nat} {b0 : Int} {l r : T} {k v : Int} (h : Imm w cp (.node r0 b0 l r k v)) (hn : (T.node r0 b0 l r k v).toL.length = n) (hB : Blk w1 w.heap.size (ncell b0 l.adr r.adr k v)) (hC1 : Ch S0 w w1) (hC : Ch S0 w1.drew w2) : ∃ cp' t', Ending.returned (.pointer (some ⟨w2.heap.size, 0, none⟩)) = .returned (.pointer (some ⟨cp', 0, none⟩)) ∧ w.heap.size ≤ cp' ∧ Imm (w2.alloc (.cells #[.pointer (some ⟨w.heap.size, 0, none⟩), .int .u64 n, .int .i8 0, .pointer none, .pointer none, .nilIface] 70)) cp' t' ∧ t'.toL = (T.node r0 b0 l r k v).toL ∧ Ch S0 w (w2.alloc (.cells #[.pointer (some ⟨w.heap.size, 0, none⟩), .int .u64 n, .int .i8 0, .pointer none, .pointer none, .nilIface] 70)) ∧ (∀ a, t'.adr = some a → w.heap.size ≤ a) ∧ (∀ x ∈ t'.bl, x ∈ (T.node r0 b0 l r k v).bl ∨ w.heap.size ≤ x) := by
  have hC3 : Ch S0 w1 (w2.alloc (.cells #[.pointer (some ⟨w.heap.size, 0, none⟩), .int .u64 n, .int .i8 0, .pointer none, .pointer none, .nilIface] 70)) := (((Ch.refl S0 w1).drew).trans hC).alloc _
  have hCw := hC1.trans hC3
  have hlt := h.rep.lt
  have hB1 : w.heap.size < w2.heap.size := Nat.lt_of_lt_of_le hB.lt hC.size
  have hnd := h.nd
  simp only [T.bl] at hlt hnd
  refine ⟨w2.heap.size, .node w.heap.size b0 l r k v, rfl, by omega, ⟨?_, ⟨hB.keep hC3 (fun h => h), h.rep.2.1.keep hCw (fun _ _ h => h), h.rep.2.2.keep hCw (fun _ _ h => h)⟩, ?_, h.avl, h.ord, ?_, h.few⟩, rfl, hCw, fun a e => (by cases e; exact Nat.le_refl _), fun x hx => ?_⟩
  · have := Blk.new w2 #[.pointer (some ⟨w.heap.size, 0, none⟩), .int .u64 n, .int .i8 0, .pointer none, .pointer none, .nilIface] 70
    rw [← hn] at this ⊢
    exact this
  · simp only [T.bl]
    refine List.nodup_cons.2 ⟨fun hx => ?_, (List.nodup_cons.1 hnd).2⟩
    have := hlt _ (List.mem_cons_of_mem _ hx)
    omega
  · simp only [T.bl]
    intro hx
    rcases List.mem_cons.1 hx with e | hx
    · omega
    · have := hlt _ (List.mem_cons_of_mem _ hx)
      omega
  · simp only [T.bl] at hx ⊢
    rcases List.mem_cons.1 hx with e | hx
    · exact Or.inr (by omega)
    · exact Or.inl (List.mem_cons_of_mem _ hx)
theorem blk_ds {w w2 : World} {c : Array Value} (h : Blk w2 w.drew.heap.size c) : Blk w2 w.heap.size c := h
set_option maxHeartbeats 4000000 in
set_option maxRecDepth 100000 in
theorem copyI_any (cp : Nat) (t : T) (w : World) (h : Imm w cp t) : Calls Try.prog 27 #[.pointer (some ⟨cp, 0, none⟩)] w fun r w' => ∃ cp' t', r = .returned (.pointer (some ⟨cp', 0, none⟩)) ∧ w.heap.size ≤ cp' ∧ Imm w' cp' t' ∧ t'.toL = t.toL ∧ Ch S0 w w' ∧ (∀ a, t'.adr = some a → w.heap.size ≤ a) ∧ (∀ x ∈ t'.bl, x ∈ t.bl ∨ w.heap.size ≤ x) := by
  obtain ⟨n, hn⟩ : ∃ n, t.toL.length = n := ⟨_, rfl⟩
  have hb := h.blk
  rw [hn] at hb
  have c0 := hb.cell 0
  have c1 := hb.cell 1
  simp only [List.getElem?_toArray, List.getElem?_cons_zero, List.getElem?_cons_succ] at c0 c1
  have HI := Lib.hid h
  have HN := Lib.hid hn
  have HB := Lib.hid hb
  clear h hb hn
  cases t with
  | nil =>
    simp only [T.adr, ad, Option.map_none] at c0
    go_enter Try.func27, Try.ntmps27
    go_wp2_with fail
    go_region_law (go_simp; go_at_call 33; (with_reducible refine (newnil_any _).mono ?_); rintro r w2 ⟨rfl, hb, hC⟩; replace hb := blk_ds hb; have hb1 := HB.out.drew.keep hC (fun h => h); have d1 := hb1.cell 1; have k0 := hb.cell 0; have k1 := hb.cell 1; have k2 := hb.cell 2; have k3 := hb.cell 3; simp only [List.getElem?_toArray, List.getElem?_cons_zero, List.getElem?_cons_succ] at d1 k0 k1 k2 k3; have HC2 := Lib.hid hC; clear hb1 hC hb)
    all_goals go_step
    all_goals go_wp2_with fail
    all_goals go_ret
    all_goals exact copy_nil_end HN.out.symm HC2.out
  | node r0 b0 tl tr k0 v0 =>
    simp only [T.adr, ad, Option.map_some] at c0
    go_enter Try.func27, Try.ntmps27
    go_wp2_with (go_at_call 32; refine (copy_any r0 b0 tl.adr tr.adr k0 v0 _ HI.out.rep.1).mono ?_; rintro r w1 ⟨rfl, hn, hC⟩; have hb1 := HB.out.keep hC (fun h => h); have d1 := hb1.cell 1; simp only [List.getElem?_toArray, List.getElem?_cons_zero, List.getElem?_cons_succ] at d1; have HB1 := Lib.hid hb1; have HC1 := Lib.hid hC; have HN1 := Lib.hid hn; clear hb1 hC hn)
    go_region_law (go_simp; go_at_call 33; (with_reducible refine (newnil_any _).mono ?_); rintro r w2 ⟨rfl, hb, hC⟩; replace hb := blk_ds hb; have hb1 := HB1.out.drew.keep hC (fun h => h); have d1 := hb1.cell 1; have k0 := hb.cell 0; have k1 := hb.cell 1; have k2 := hb.cell 2; have k3 := hb.cell 3; simp only [List.getElem?_toArray, List.getElem?_cons_zero, List.getElem?_cons_succ] at d1 k0 k1 k2 k3; have HC2 := Lib.hid hC; clear hb1 hC hb)
    all_goals go_step
    all_goals go_wp2_with fail
    all_goals go_ret
    all_goals exact copy_node_end HI.out HN.out HN1.out HC1.out HC2.out
end Go.Proofs.Ytlppnbmaedgodaa
