/- MEMORY: the last part of an insertion, in one piece each. -/
import Derived.Test.YtlppnbmaedgodaaE5
namespace Go.Proofs.Ytlppnbmaedgodaa
open Go.RowKit
set_option linter.unusedVariables false
set_option linter.unusedSimpArgs false

theorem Dn.mid {w0 : World} {cp D r0 n : Nat} {A B G : List Fr} {f : Fr} {P : T} {w : World} (d : Dn w0 cp D r0 n (A ++ (B ++ f :: G)) P w) : Blk w f.a (f.cells (top G P.adr)) := by
  have := d.frs.1
  rw [← List.append_assoc] at this
  exact (frs_mid.1 this).2.1
theorem Dn.up2 {w0 : World} {cp D r0 n : Nat} {A B G : List Fr} {f : Fr} {P : T} {w : World} (d : Dn w0 cp D r0 n (A ++ (ups B ++ f :: G)) P w) : Dn w0 cp D r0 n (A ++ (ups (B ++ [f]) ++ G)) P (w.setCell ⟨f.a, 0, none⟩ (.int .i8 f.up.b)) := by
  rw [← List.append_assoc] at d
  have := d.up
  rw [show ups (B ++ [f]) ++ G = ups B ++ f.up :: G by simp [ups]]
  rw [List.append_assoc] at this
  exact this
theorem Dn.leafB {w0 : World} {cp D r0 n Q : Nat} {F : List Fr} {key val : Int} {w : World} (d : Dn w0 cp D r0 n F (Go.Proofs.Ytlppnbmaedgodaa.leaf Q key val) w) : Blk w Q (ncell 0 none none key val) := d.frs.2.1
theorem topA_ad (todo : List Fr) (Q : Nat) : ad (top todo (some Q)) = some ⟨topA todo Q, 0, none⟩ := by cases todo <;> rfl
theorem rep_blk {w : World} : ∀ {t : T}, Rep w t → ∀ x ∈ t.bl, ∃ c, Blk w x c
  | .node a b l r k v, ⟨h1, h2, h3⟩, x, hx => by
    simp only [T.bl, List.mem_cons, List.mem_append] at hx
    rcases hx with rfl | hx | hx
    · exact ⟨_, h1⟩
    · exact rep_blk h2 x hx
    · exact rep_blk h3 x hx
theorem Dn.neQ {w0 : World} {cp D r0 n Q : Nat} {A B G : List Fr} {f : Fr} {key val : Int} {w : World} (d : Dn w0 cp D r0 n (A ++ (B ++ f :: G)) (Go.Proofs.Ytlppnbmaedgodaa.leaf Q key val) w) : f.a ≠ Q := by
  have nd := d.nd
  intro e
  refine (List.nodup_append.1 nd).2.2 f.a ?_ Q (by simp [Go.Proofs.Ytlppnbmaedgodaa.leaf, T.bl]) e
  rw [frBl_app, frBl_app]
  simp [frBl]
/-- insertBalance where the tree hangs too low. -/
theorem turn_to {w0 : World} {cp D r0 n Q : Nat} {fs1 : List Fr} {s : Fr} {gs : List Fr} {key val : Int} {w : World} (d : Dn w0 cp D r0 n (fs1 ++ (ups (s :: gs) ++ [])) (leaf Q key val) w) (ha : (s.fill (zip gs .nil)).Avl) (hz : ∀ g ∈ gs, g.b = 0) (hh : heavy s = true) :
    Calls Try.prog 37 #[.pointer (some ⟨s.a, 0, none⟩), .int .i64 (if s.d then 1 else 0)] w fun r w' => ∃ x, r = .returned (.pointer (some ⟨x, 0, none⟩)) ∧ (fixed s gs Q key val).adr = some x ∧ Md w0 cp D r0 n s.a fs1 (fixed s gs Q key val) w' := by
  rw [List.append_nil] at d
  have hway : ∀ x, OnWay s gs Q x → x = r0 ∨ w0.heap.size ≤ x := fun x hx => by
    rcases hx with rfl | ⟨g, hg, rfl⟩ | rfl
    · exact d.new s.up (by simp [ups])
    · exact d.new g.up (by simp only [ups, List.mem_append, List.mem_map]; exact Or.inr ⟨g, by simp [hg], rfl⟩)
    · exact d.newP _ rfl
  have dj : Dn w0 cp D r0 n fs1 (low s gs Q key val) w := d.join
  have hadr : (low s gs Q key val).adr = some s.a := by unfold low Fr.fill; cases s.up.d <;> rfl
  obtain ⟨hne, hht⟩ := heavy_ne ha hh
  obtain ⟨h1, h2, h3, h4, h5⟩ := (fill_avl _ _).1 ha
  obtain ⟨i1, i2⟩ := zero_ht (q := Q) (k := key) (v := val) hz h5
  have htop := top_ne (q := Q) (k := key) (v := val) hz hne
  have hN2 : (zip (ups gs) (leaf Q key val)).ht - s.sib.ht = 2 := by rw [ups_ht, i1, hht]; omega
  have hrep := dj.frs.2
  have hnd := (List.nodup_append.1 dj.nd).2.1
  cases hd : s.d
  · have hl : low s gs Q key val = .node s.a s.up.b (zip (ups gs) (leaf Q key val)) s.sib s.k s.v := by
      unfold low Fr.fill
      rw [show s.up.d = false from hd]; rfl
    have hf : fixed s gs Q key val = rotL (low s gs Q key val) := by unfold fixed; rw [hh, hd]; rfl
    obtain ⟨w1, w2⟩ := wrL_way (s := s) (q := Q) (k := key) (v := val) hz hne hd
    obtain ⟨r1, r2, r3, r4⟩ := rotL_ok (a := s.a) (b := s.up.b) (k := s.k) (v := s.v) h4 i2 hN2 htop
    rw [hl] at hrep hnd
    refine (insL_any w hrep hnd i2 hN2 htop).mono ?_
    rintro r w' ⟨rfl, hR, hC⟩
    rw [← hl, ← hf] at hR
    rw [← hl, ← hf] at r4
    rw [← hl] at hC
    rw [← hf] at w2
    have hex : ∃ x, (fixed s gs Q key val).adr = some x := by
      cases e : fixed s gs Q key val with
      | nil => rw [e] at r4; have := r4.length_eq; rw [hl] at this; simp [T.bl] at this
      | node => exact ⟨_, rfl⟩
    obtain ⟨x, hx⟩ := hex
    refine ⟨x, by rw [← hl, ← hf, hx]; rfl, hx, dj.turn hadr hR r4 hC (fun k hk => wrL_bl hk) (fun k hk => hway k (w1 k hk)) (fun k hk => hway k (w2 k hk)) ⟨x, hx⟩⟩
  · have hl : low s gs Q key val = .node s.a s.up.b s.sib (zip (ups gs) (leaf Q key val)) s.k s.v := by
      unfold low Fr.fill
      rw [show s.up.d = true from hd]; rfl
    have hf : fixed s gs Q key val = rotR (low s gs Q key val) := by unfold fixed; rw [hh, hd]; rfl
    obtain ⟨w1, w2⟩ := wrR_way (s := s) (q := Q) (k := key) (v := val) hz hne hd
    obtain ⟨r1, r2, r3, r4⟩ := rotR_ok (a := s.a) (b := s.up.b) (k := s.k) (v := s.v) h4 i2 hN2 htop
    rw [hl] at hrep hnd
    refine (insR_any w hrep hnd i2 hN2 htop).mono ?_
    rintro r w' ⟨rfl, hR, hC⟩
    rw [← hl, ← hf] at hR
    rw [← hl, ← hf] at r4
    rw [← hl] at hC
    rw [← hf] at w2
    have hex : ∃ x, (fixed s gs Q key val).adr = some x := by
      cases e : fixed s gs Q key val with
      | nil => rw [e] at r4; have := r4.length_eq; rw [hl] at this; simp [T.bl] at this
      | node => exact ⟨_, rfl⟩
    obtain ⟨x, hx⟩ := hex
    refine ⟨x, by rw [← hl, ← hf, hx]; rfl, hx, dj.turn hadr hR r4 hC (fun k hk => wrR_bl hk) (fun k hk => hway k (w1 k hk)) (fun k hk => hway k (w2 k hk)) ⟨x, hx⟩⟩
/-- Nothing is to be turned. -/
theorem no_turn {w0 : World} {cp D r0 n Q : Nat} {fs1 : List Fr} {s : Fr} {gs : List Fr} {key val : Int} {w : World} (d : Dn w0 cp D r0 n (fs1 ++ (ups (s :: gs) ++ [])) (leaf Q key val) w) (hh : heavy s = false) : (fixed s gs Q key val).adr = some s.a ∧ Md w0 cp D r0 n s.a fs1 (fixed s gs Q key val) w := by
  rw [List.append_nil] at d
  have dj : Dn w0 cp D r0 n fs1 (low s gs Q key val) w := d.join
  have hadr : (low s gs Q key val).adr = some s.a := by unfold low Fr.fill; cases s.up.d <;> rfl
  have hf : fixed s gs Q key val = low s gs Q key val := by unfold fixed; rw [hh]; rfl
  rw [hf]
  exact ⟨hadr, dj.md hadr⟩
theorem fin_facts {t0 : T} {key val : Int} {fs1 gs : List Fr} {s : Fr} {n : Nat} (Q : Nat) (h : Pl t0 key (fs1 ++ s :: gs) .nil) (ho : Ord t0.toL) (hs : s.b ≠ 0 ∨ fs1 = []) (hz : ∀ g ∈ gs, g.b = 0) (hn : t0.toL.length = n) :
    (zip fs1 (fixed s gs Q key val)).Avl ∧ (zip fs1 (fixed s gs Q key val)).toL = lins key val t0.toL ∧ lget key t0.toL = none ∧ Ord (zip fs1 (fixed s gs Q key val)).toL ∧ (zip fs1 (fixed s gs Q key val)).toL.length = n + 1 := by
  have ha := h.avl
  rw [zip_app] at ha
  have ho' := ho
  rw [← h.tol] at ho'
  obtain ⟨l1, l2⟩ := ins_list (v := val) h.way ho'
  obtain ⟨a1, a2, a3⟩ := ins_avl (q := Q) (k := key) (v := val) hz hs ha
  have e : (zip fs1 (fixed s gs Q key val)).toL = lins key val t0.toL := by
    rw [← h.tol, l1, zip_toL, a2]
    have h2 : (s.fill (zip gs (leaf Q key val))).toL = pre (s :: gs) ++ (leaf Q key val).toL ++ post (s :: gs) := zip_toL (s :: gs) _
    rw [h2]
    have e1 : ∀ A B, pre (A ++ B) = pre A ++ pre B := fun A B => by
      induction A with
      | nil => rfl
      | cons x A ih => simp [pre, ih]
    have e2 : ∀ A B, post (A ++ B) = post B ++ post A := fun A B => by
      induction A with
      | nil => simp [post]
      | cons x A ih => simp [post, ih]
    rw [e1, e2]
    simp [leaf, T.toL]
  refine ⟨a1, e, by rw [← h.tol]; exact l2, by rw [e]; exact lins_ord ho, ?_⟩
  rw [e, len_lins key val _ ho]
  rw [← h.tol, l2, h.tol, hn]
  rfl
theorem Md.mid {w0 : World} {cp D r0 n sA : Nat} {F : List Fr} {h : Fr} {P : T} {w : World} (m : Md w0 cp D r0 n sA (F ++ [h]) P w) : Blk w h.a (h.cells (some sA)) ∧ (∃ c, Blk w sA c) ∧ (∃ c, Blk w r0 c) ∧ sA ≠ r0 ∧ (∀ y, h.sib.adr = some y → y ≠ sA ∧ ∃ c, Blk w y c) := by
  obtain ⟨f1, g1, g2⟩ := frs_snoc.1 m.frs
  have nd := m.nd
  obtain ⟨n1, n2, n3⟩ := List.nodup_append.1 nd
  refine ⟨g1, rep_blk m.rep _ m.sIn, ?_, ?_, fun y hy => ⟨?_, rep_blk g2 y (T.adr_bl hy)⟩⟩
  · have := m.tp
    cases F with
    | nil => cases this; exact ⟨_, g1⟩
    | cons f F => cases this; exact ⟨_, f1.1⟩
  · intro e
    have : r0 ∈ frBl (F ++ [h]) := by
      have := m.tp
      cases F with
      | nil => cases this; simp [frBl]
      | cons f F => cases this; simp [frBl]
    exact n3 r0 this sA m.sIn e.symm
  · intro e
    refine n3 y ?_ sA m.sIn e
    rw [frBl_app]
    simp [frBl, T.adr_bl hy]
theorem Md.atRoot {w0 : World} {cp D r0 n sA : Nat} {P : T} {w : World} (m : Md w0 cp D r0 n sA [] P w) : sA = r0 ∧ ∃ c, Blk w sA c := ⟨by have := m.tp; simpa [top] using this, rep_blk m.rep _ m.sIn⟩
theorem i8_up {b : Int} (h1 : -1 ≤ b) (h2 : b ≤ 1) : IntKind.i8.wrap (b + 1) = b + 1 := by
  unfold IntKind.wrap
  simp [IntKind.min, IntKind.max, IntKind.bits, IntKind.signed]
  omega
theorem i8_dn {b : Int} (h1 : -1 ≤ b) (h2 : b ≤ 1) : IntKind.i8.wrap (b - 1) = b - 1 := by
  unfold IntKind.wrap
  simp [IntKind.min, IntKind.max, IntKind.bits, IntKind.signed]
  omega
/-- A node that was just written points on to the next one. -/
theorem Dn.nextR {w0 : World} {cp D r0 n Q ga : Nat} {gb gk gv : Int} {gs : T} {A B G : List Fr} {key val : Int} {w : World} (d : Dn w0 cp D r0 n (A ++ (ups (B ++ [⟨ga, gb, true, gs, gk, gv⟩]) ++ G)) (Go.Proofs.Ytlppnbmaedgodaa.leaf Q key val) w) : w.cell? ⟨ga, 2, none⟩ = some (.pointer (some ⟨topA G Q, 0, none⟩)) := by
  have e : ups (B ++ [⟨ga, gb, true, gs, gk, gv⟩]) ++ G = ups B ++ (Fr.up ⟨ga, gb, true, gs, gk, gv⟩) :: G := by simp [ups]
  rw [e] at d
  have := d.mid.cell 2
  rw [← topA_ad]
  exact this
theorem Dn.nextL {w0 : World} {cp D r0 n Q ga : Nat} {gb gk gv : Int} {gs : T} {A B G : List Fr} {key val : Int} {w : World} (d : Dn w0 cp D r0 n (A ++ (ups (B ++ [⟨ga, gb, false, gs, gk, gv⟩]) ++ G)) (Go.Proofs.Ytlppnbmaedgodaa.leaf Q key val) w) : w.cell? ⟨ga, 1, none⟩ = some (.pointer (some ⟨topA G Q, 0, none⟩)) := by
  have e : ups (B ++ [⟨ga, gb, false, gs, gk, gv⟩]) ++ G = ups B ++ (Fr.up ⟨ga, gb, false, gs, gk, gv⟩) :: G := by simp [ups]
  rw [e] at d
  have := d.mid.cell 1
  rw [← topA_ad]
  exact this
theorem far_heavy {s : Fr} (h1 : -1 ≤ s.b) (h2 : s.b ≤ 1) : (FloatKind.f64.format.order (nosign (floatOfInt .f64 s.up.b)) 4607182418800017408 == some .gt) = heavy s := by
  have e4 : s.up.b = s.b + (if s.d then 1 else -1) := rfl
  unfold heavy
  cases hd : s.d <;> rw [hd] at e4 <;> simp only [if_true, if_false, Bool.false_eq_true] at e4 <;> rw [far_cmp _ (by omega) (by omega), e4]
  · have a : ¬ (1 < s.b + -1) := by omega
    by_cases e : s.b = -1
    · simp [e]
    · have b : ¬ (s.b + -1 < -1) := by omega
      simp [a, b, e]
  · have a : ¬ (s.b + 1 < -1) := by omega
    by_cases e : s.b = 1
    · simp [e]
    · have b : ¬ (1 < s.b + 1) := by omega
      simp [a, b, e]
theorem Dn.balS {w0 : World} {cp D r0 n Q : Nat} {fs1 gs : List Fr} {s : Fr} {key val : Int} {w : World} (d : Dn w0 cp D r0 n (fs1 ++ (ups (s :: gs) ++ [])) (Go.Proofs.Ytlppnbmaedgodaa.leaf Q key val) w) : w.cell? ⟨s.a, 0, none⟩ = some (.int .i8 s.up.b) ∧ w.cell? ⟨s.a, 3, none⟩ = some (en s.k s.v) := by
  have h : Blk w s.up.a (s.up.cells (top (ups gs ++ []) (some Q))) := Dn.mid (B := []) (A := fs1) (G := ups gs ++ []) (f := s.up) d
  have h0 := h.cell 0
  have h3 := h.cell 3
  unfold Fr.cells at h0 h3
  cases hd : s.up.d <;> rw [hd] at h0 h3 <;> exact ⟨h0, h3⟩
/-- The end of an insertion where s was the root. -/
theorem end_root {w0 : World} {cp D r0 n x sA : Nat} {t0 P : T} {key val : Int} {w : World} (hi : Imm w0 cp t0) (h0 : t0.adr = some r0) (m : Md w0 cp D r0 (n + 1) sA [] P w) (hx : P.adr = some x) (hA : P.Avl) (hl : P.toL = lins key val t0.toL) (hg : lget key t0.toL = none) (hO : Ord P.toL) (hn : P.toL.length = n + 1) (hf : n < 100000) : InsR w0 cp t0 key val (.returned .nilIface) (w.setCell ⟨cp, 0, none⟩ (.pointer (some ⟨x, 0, none⟩))) := by
  obtain ⟨g1, g2, g3, g4⟩ := m.endRoot hx hA hO hn (by omega)
  exact ins_end hi g4 h0 g1 hl hg g2 g3
theorem end_at {w0 : World} {cp D r0 n x sA : Nat} {t0 P : T} {F : List Fr} {h : Fr} {key val : Int} {w : World} (hi : Imm w0 cp t0) (h0 : t0.adr = some r0) (m : Md w0 cp D r0 (n + 1) sA (F ++ [h]) P w) (hx : P.adr = some x) (hA : (zip (F ++ [h]) P).Avl) (hl : (zip (F ++ [h]) P).toL = lins key val t0.toL) (hg : lget key t0.toL = none) (hO : Ord (zip (F ++ [h]) P).toL) (hn : (zip (F ++ [h]) P).toL.length = n + 1) (hf : n < 100000) : InsR w0 cp t0 key val (.returned .nilIface) (w.setCell ⟨h.a, if h.d then 2 else 1, none⟩ (.pointer (some ⟨x, 0, none⟩))) := by
  obtain ⟨g1, g2, g3, g4⟩ := m.endAt hx hA hO hn (by omega)
  exact ins_end hi g4 h0 g1 hl hg g2 g3
theorem ifb1 (w : World) : Calls Try.prog 38 #[.bool true] w fun r w' => r = .returned (.int .i64 1) ∧ w' = w := ifb_any true w
theorem ifb0 (w : World) : Calls Try.prog 38 #[.bool false] w fun r w' => r = .returned (.int .i64 0) ∧ w' = w := ifb_any false w
theorem nil_eq (a : Nat) (w : World) : (binOp .eql 61 (.pointer none) (.pointer (some ⟨a, 0, none⟩))).run Try.prog w = .ok (.bool false) w := by
  have h : ∀ d : Nat, (Op.equalIn (d + 1) 61 (.pointer none) (.pointer (some ⟨a, 0, none⟩))).run Try.prog w = .ok false w := fun d => by
    simp [Op.equalIn, run_underlying undE]
  simp only [binOp]
  simp [Op.equal, Op.maxDepth, h 9999]
theorem sib_eq {w : World} {o : Option Nat} {a : Nat} {c : Array Value} (ha : Blk w a c) (h : ∀ y, o = some y → y ≠ a ∧ ∃ c, Blk w y c) : (binOp .eql 61 (.pointer (ad o)) (.pointer (some ⟨a, 0, none⟩))).run Try.prog w = .ok (.bool false) w := by
  cases o with
  | none => exact nil_eq a w
  | some y =>
    obtain ⟨h1, c', h2⟩ := h y rfl
    have := ptr_eq h2 ha
    simpa [h1, ad] using this
theorem snoc_cases (l : List Fr) : l = [] ∨ ∃ F h, l = F ++ [h] := by
  rcases List.eq_nil_or_concat l with h | ⟨F, h, e⟩
  · exact Or.inl h
  · exact Or.inr ⟨F, h, by rw [e, List.concat_eq_append]⟩
end Go.Proofs.Ytlppnbmaedgodaa
