/- AddEdge between two vertices. -/
import Derived.Test.YtjifdcklmpibpaaDoorE
namespace Go.Proofs.YtjifdcklmpibpaaDoor
open Go.RowKit
set_option linter.unusedVariables false
set_option linter.unusedSimpArgs false

theorem Tryd.info82 : (Tryd.prog.info? 82).map (·.zero) = some (some (.agg #[])) := by kernel_rfl
theorem zero82 (w : World) : (zeroValue 82).run Tryd.prog w = .ok (.agg #[]) w := by
  have h := Tryd.info82
  cases hi : Tryd.prog.info? 82 with
  | none => rw [hi] at h; cases h
  | some i =>
    rw [hi] at h
    have h' : i.zero = some (.agg #[]) := by simpa using h
    simp [zeroValue, run_tyI hi, h', Result.andThen]

/-- What two calls of addVertex leave. -/
theorem addv2 {w w1 w2 : World} {B g ob : Nat} {vs vs1 vs2 : Int → Option Nat} {G : PG} {v u : Int} (h : GR w B g ob vs G) (hB : B ≤ w.heap.size)
    (hs1 : ∀ x, (vs1 x).isSome = ((vs x).isSome || x == v)) (hi1 : ∀ j, InG g ob vs1 j → InG g ob vs j ∨ w.heap.size ≤ j) (hC1 : Ch (S2 g ob) w w1)
    (h2 : GG w2 g ob vs2 G.adj G.deg (if (vs1 u).isSome then (if (vs v).isSome then G.nv else G.nv + 1) else (if (vs v).isSome then G.nv else G.nv + 1) + 1) G.ne)
    (hs2 : ∀ x, (vs2 x).isSome = ((vs1 x).isSome || x == u)) (hi2 : ∀ j, InG g ob vs2 j → InG g ob vs1 j ∨ w1.heap.size ≤ j) (hC2 : Ch (S2 g ob) w1 w2) :
    GR w2 B g ob vs2 ((G.addv v).addv u) ∧ (∀ j, InG g ob vs2 j → InG g ob vs j ∨ w.heap.size ≤ j) ∧ Ch (S2 g ob) w w2 := by
  have hin : ∀ j, InG g ob vs2 j → InG g ob vs j ∨ w.heap.size ≤ j := fun j hj => by
    rcases hi2 j hj with h' | h'
    · exact hi1 j h'
    · exact Or.inr (Nat.le_trans hC1.size h')
  refine ⟨⟨?_, fun x => ?_, (h.ok.addv v).addv u, fun k hk => (hin k hk).elim (h.lo k) (fun h' => Nat.le_trans hB h')⟩, hin, hC1.trans hC2⟩
  · have e : ((G.addv v).addv u).nv = (if (vs1 u).isSome then (if (vs v).isSome then G.nv else G.nv + 1) else (if (vs v).isSome then G.nv else G.nv + 1) + 1) := by
      simp only [PG.addv, hs1, h.ver]
      rfl
    rw [e]
    exact h2
  · rw [hs2, hs1, h.ver]
    simp [PG.addv]

theorem link3 {w2 w3 : World} {B g ob bv : Nat} {vs : Int → Option Nat} {G : PG} {v u : Int} (h : GR w2 B g ob vs ((G.addv v).addv u)) (hb : vs v = some bv) (ha : G.adj v u = false)
    (hI : IMap 3 .i64 w3 bv (fun y => if y = u then some (Value.agg #[]) else if ((G.addv v).addv u).adj v y = true then some (Value.agg #[]) else none) (if (none : Option Value).isSome = true then ((G.addv v).addv u).deg v else ((G.addv v).addv u).deg v + 1))
    (hg : (w2.alloc (.cells #[] 82)).grownBy w3 (some bv)) :
    GG w3 g ob vs (fun x y => G.adj x y || (x == v && y == u)) (fun x => if x = v then G.deg x + 1 else G.deg x) ((G.addv v).addv u).nv G.ne :=
  GG.link h.gg hb ha (by simpa using hI) (((Ch.refl _ _).alloc _).trans (Ch.ofGrown hg fun k hk => (Option.some.inj hk).symm))

theorem link4 {w3 w4 : World} {g ob bu nv ne : Nat} {vs : Int → Option Nat} {G : PG} {v u : Int} (h : GG w3 g ob vs (fun x y => G.adj x y || (x == v && y == u)) (fun x => if x = v then G.deg x + 1 else G.deg x) nv ne) (hb : vs u = some bu) (ha : G.adj u v = false) (hne : v ≠ u)
    (hI : IMap 3 .i64 w4 bu (fun y => if y = v then some (Value.agg #[]) else if (G.adj u y || (u == v && y == u)) = true then some (Value.agg #[]) else none) (if (none : Option Value).isSome = true then (if u = v then G.deg u + 1 else G.deg u) else (if u = v then G.deg u + 1 else G.deg u) + 1))
    (hg : w3.grownBy w4 (some bu)) :
    GG w4 g ob vs (G.link v u).adj (G.link v u).deg nv ne := by
  have h1 := GG.link (w' := w4) h hb (u := v) (by simp [ha]; omega) (by simpa using hI) (Ch.ofGrown hg fun k hk => (Option.some.inj hk).symm)
  have e : (fun x => if x = u then (if x = v then G.deg x + 1 else G.deg x) + 1 else if x = v then G.deg x + 1 else G.deg x) = (G.link v u).deg := by
    funext x
    by_cases h1 : x = v
    · subst h1; simp [PG.link, hne]
    · by_cases h2 : x = u <;> simp [PG.link, h1, h2]
      omega
  rw [← e]
  exact h1

theorem link5 {w w2 w3 w4 : World} {B g ob bv bu : Nat} {vs vs2 : Int → Option Nat} {G : PG} {v u : Int} (h : GR w B g ob vs G) (hR : GR w2 B g ob vs2 ((G.addv v).addv u)) (hIn : ∀ j, InG g ob vs2 j → InG g ob vs j ∨ w.heap.size ≤ j) (hC : Ch (S2 g ob) w w2)
    (hne : v ≠ u) (ha : G.adj v u = false) (hbv : vs2 v = some bv) (hbu : vs2 u = some bu)
    (h4 : GG w4 g ob vs2 (G.link v u).adj (G.link v u).deg ((G.addv v).addv u).nv G.ne) (hg3 : (w2.alloc (.cells #[] 82)).grownBy w3 (some bv)) (hg4 : w3.grownBy w4 (some bu)) :
    (∃ vs', GR (w4.setCell ⟨g, 2, none⟩ (.int .i64 ((G.ne : Int) + 1))) B g ob vs' (G.add v u) ∧ ∀ k, InG g ob vs' k → InG g ob vs k ∨ w.heap.size ≤ k) ∧ Ch (InG g ob vs) w (w4.setCell ⟨g, 2, none⟩ (.int .i64 ((G.ne : Int) + 1))) := by
  have e : G.add v u = ((G.addv v).addv u).link v u := by simp [PG.add, hne, ha]
  refine ⟨⟨vs2, ⟨?_, fun x => ?_, h.ok.add v u, hR.lo⟩, hIn⟩, ?_⟩
  · rw [e]; exact h4.setE
  · rw [e, hR.ver]; rfl
  · have c1 : Ch (InG g ob vs) w w2 := hC.mono fun k _ hs => hs.elim (fun e => Or.inl e) (fun e => Or.inr (Or.inl e))
    have c2 : Ch (fun k => InG g ob vs2 k) w2 w4 := (((Ch.refl _ _).alloc _).trans (Ch.ofGrown hg3 fun k hk => Or.inr (Or.inr ⟨v, by rw [hbv, hk]⟩))).trans (Ch.ofGrown hg4 fun k hk => Or.inr (Or.inr ⟨u, by rw [hbu, hk]⟩))
    have c3 := c1.trans' c2 (fun i hi hs => (hIn i hs).elim (fun h => h) (fun h => by omega))
    exact c3.setCell ⟨g, 2, none⟩ (fun _ => Or.inl rfl) _

set_option maxRecDepth 100000 in
theorem edge_two (B g ob : Nat) (vs : Int → Option Nat) (G : PG) (e1 e2 e3 : Addr) (v u : Int) (w : World) (h : GR w B g ob vs G) (hE : Er w B e1 e2 e3) (hne : v ≠ u) (hnv : G.nv < 100000) (hne2 : G.ne < 100000) :
    Calls Tryd.prog 26 #[.pointer (some ⟨g, 0, none⟩), .iface 3 (.int .i64 v), .iface 3 (.int .i64 u)] w fun r w' => r = .returned (errV e1 e2 e3 (G.err v u)) ∧ (∃ vs', GR w' B g ob vs' (G.add v u) ∧ ∀ k, InG g ob vs' k → InG g ob vs k ∨ w.heap.size ≤ k) ∧ Ch (InG g ob vs) w w' := by
  have heq : (binOp .eql 20 (.iface 3 (.int .i64 v)) (.iface 3 (.int .i64 u))).run Tryd.prog w = .ok (.bool false) w := by
    have := ik_eql w v u
    have e : (v == u) = false := by simp [hne]
    rwa [e] at this
  have HH := Lib.hid h
  have HE := Lib.hid hE
  have HNe := Lib.hid hne
  have HV := Lib.hid hnv
  clear h hE hne hnv
  go_enter Tryd.func26, Tryd.ntmps26
  go_wp2_with fail
  refine (addv_any g ob G.nv G.ne vs G.adj G.deg v w HH.out.gg (by have := HV.out; omega)).mono ?_
  rintro r w1 ⟨rfl, vs1, hG1, hs1, hi1, hC1⟩
  have HG1 := Lib.hid hG1
  have HS1 := Lib.hid hs1
  have HC1 := Lib.hid hC1
  clear hG1 hs1 hC1
  go_wp2_with fail
  refine (addv_any g ob _ G.ne vs1 G.adj G.deg u w1 HG1.out (by have := HV.out; split <;> omega)).mono ?_
  rintro r w2 ⟨rfl, vs2, hG2, hs2, hi2, hC2⟩
  obtain ⟨hGR, hIn, hC⟩ := addv2 HH.out HE.out.sz HS1.out hi1 HC1.out hG2 hs2 hi2 hC2
  obtain ⟨bv, hbv⟩ : ∃ b, vs2 v = some b := by
    have : (vs2 v).isSome = true := by rw [hs2, HS1.out]; simp
    exact Option.isSome_iff_exists.1 this
  obtain ⟨bu, hbu⟩ : ∃ b, vs2 u = some b := by
    have : (vs2 u).isSome = true := by rw [hs2]; simp
    exact Option.isSome_iff_exists.1 this
  have HI := Lib.hid (hGR.gg.inn v bv hbv)
  have HO := Lib.hid hGR.gg.out
  have c0 := hGR.gg.blk.cell 0
  simp only [List.getElem?_toArray, List.getElem?_cons_zero] at c0
  have fv : ((fun k => (vs2 k).map fun b => Value.map (some b)) v) = some (.map (some bv)) := by simp [hbv]
  have fu : ((fun k => (vs2 k).map fun b => Value.map (some b)) u) = some (.map (some bu)) := by simp [hbu]
  have HGR := Lib.hid hGR
  have HIn := Lib.hid hIn
  have HC := Lib.hid hC
  have HBV := Lib.hid hbv
  have HBU := Lib.hid hbu
  have hE2 := HE.out.keep hC (fun k hk hs => by have := HH.out.lo k (hs.elim (fun e => Or.inl e) (fun e => Or.inr (Or.inl e))); omega)
  have HE2 := Lib.hid hE2
  have hv3 := hE2.v3
  have hs3 : 2 < w2.heap.size := by have := hE2.b3; have := hE2.sz; omega
  clear hGR hIn hC hbv hbu hG2 hs2 hi2 hC2 hi1 hE2
  by_cases hadj : G.adj v u = true
  · have fi : ((fun y => if ((G.addv v).addv u).adj v y = true then some (Value.agg #[]) else none) u) = some (.agg #[]) := by simp [PG.addv, hadj]
    have HA := Lib.hid hadj
    clear hadj
    go_wp2_with (first | (at_lookup; go_loud (refine wpList_ilook _ rfl (.tmp 23) (.tmp 24) 65 rfl 68 ikey Tryd.underlying65 (zero68 _) ob _ _ rfl HO.out v rfl ?_; simp only [fv, Option.getD_some])) | (at_lookup; go_loud (refine wpList_ilook_ok _ rfl (.tmp 25) (.tmp 26) 68 rfl 82 ikey Tryd.underlying68 (zero82 _) bv _ _ rfl HI.out u rfl ?_; simp only [fi, Option.getD_some, Option.isSome_some])))
    go_ret
    have hA := HA.out
    have e : G.add v u = (G.addv v).addv u := by simp [PG.add, HNe.out, hA]
    refine ⟨by simp [PG.err, HNe.out, hA, errV], ⟨vs2, ?_, HIn.out⟩, ?_⟩
    · rw [e]
      exact HGR.out.keep ((Ch.refl S0 w2).alloc _) (fun _ _ h => h)
    · exact (HC.out.mono fun k _ hs => hs.elim (fun e => Or.inl e) (fun e => Or.inr (Or.inl e))).alloc _
  · have hadj : G.adj v u = false := by simpa using hadj
    have hadu : G.adj u v = false := by rw [← HH.out.ok.sym]; exact hadj
    have fi : ((fun y => if ((G.addv v).addv u).adj v y = true then some (Value.agg #[]) else none) u) = none := by simp [PG.addv, hadj]
    have fi3 : ((fun y => if (G.adj u y || (u == v && y == u)) = true then some (Value.agg #[]) else none) v) = none := by have := HNe.out; simp [hadu]; omega
    have HO2 := Lib.hid (HO.out.keep (w' := w2.alloc (.cells #[] 82)) ((MapKept.heap_alloc w2 _).2 ob HO.out.lt))
    have HI2 := Lib.hid (HI.out.keep (w' := w2.alloc (.cells #[] 82)) ((MapKept.heap_alloc w2 _).2 bv HI.out.lt))
    have hgl := HGR.out.gg.blk.lt
    have HA := Lib.hid hadj
    have HAu := Lib.hid hadu
    clear hadj hadu
    go_wp2_with (first | (at_lookup; go_loud (refine wpList_ilook _ rfl (.tmp 23) (.tmp 24) 65 rfl 68 ikey Tryd.underlying65 (zero68 _) ob _ _ rfl HO.out v rfl ?_; simp only [fv, Option.getD_some])) | (at_lookup; go_loud (refine wpList_ilook_ok _ rfl (.tmp 25) (.tmp 26) 68 rfl 82 ikey Tryd.underlying68 (zero82 _) bv _ _ rfl HI.out u rfl ?_; simp only [fi, Option.getD_none, Option.isSome_none])) | (at_lookup; go_loud (refine wpList_ilook _ rfl (.tmp 35) (.tmp 36) 65 rfl 68 ikey Tryd.underlying65 (zero68 _) ob _ _ rfl HO2.out v rfl ?_; simp only [fv, Option.getD_some])) | (at_mapUpdate; go_loud (refine wpList_istore _ rfl (.tmp 37) (.tmp 38) (.tmp 39) 68 rfl 82 ikey Tryd.underlying68 bv _ _ rfl HI2.out u rfl (.agg #[]) rfl ?_; intro w3 hI3 hgr3 hsz3; rw [fi] at hI3; have hG3 := link3 HGR.out HBV.out HA.out hI3 hgr3; have HG3 := Lib.hid hG3; have c03 := hG3.blk.cell 0; simp only [List.getElem?_toArray, List.getElem?_cons_zero] at c03; have HGr3 := Lib.hid hgr3; have HO3 := Lib.hid hG3.out; have HI3 := Lib.hid (hG3.inn u bu HBU.out); clear hI3 hgr3 hG3)) | (at_lookup; go_loud (refine wpList_ilook _ rfl (.tmp 43) (.tmp 44) 65 rfl 68 ikey Tryd.underlying65 (zero68 _) ob _ _ rfl HO3.out u rfl ?_; simp only [fu, Option.getD_some])) | (at_mapUpdate; go_loud (refine wpList_istore _ rfl (.tmp 45) (.tmp 46) (.tmp 47) 68 rfl 82 ikey Tryd.underlying68 bu _ _ rfl HI3.out v rfl (.agg #[]) rfl ?_; intro w4 hI4 hgr4 hsz4; rw [fi3] at hI4; have hG4 := link4 HG3.out HBU.out HAu.out HNe.out hI4 hgr4; have HG4 := Lib.hid hG4; have HGr4 := Lib.hid hgr4; have d2 := hG4.blk.cell 2; have f2 := hG4.blk.free 2; simp only [List.getElem?_toArray, List.getElem?_cons_succ, List.getElem?_cons_zero] at d2; clear hI4 hgr4 hG4)))
    go_ret
    exact ⟨by simp [PG.err, HNe.out, HA.out, errV], link5 HH.out HGR.out HIn.out HC.out HNe.out HA.out HBV.out HBU.out HG4.out HGr3.out HGr4.out⟩
theorem edge_any (B g ob : Nat) (vs : Int → Option Nat) (G : PG) (e1 e2 e3 : Addr) (v u : Int) (w : World) (h : GR w B g ob vs G) (hE : Er w B e1 e2 e3) (hnv : G.nv < 100000) (hne2 : G.ne < 100000) :
    Calls Tryd.prog 26 #[.pointer (some ⟨g, 0, none⟩), .iface 3 (.int .i64 v), .iface 3 (.int .i64 u)] w fun r w' => r = .returned (errV e1 e2 e3 (G.err v u)) ∧ (∃ vs', GR w' B g ob vs' (G.add v u) ∧ ∀ k, InG g ob vs' k → InG g ob vs k ∨ w.heap.size ≤ k) ∧ Ch (InG g ob vs) w w' := by
  by_cases hne : v = u
  · subst hne
    refine (edge_self B g ob e1 e2 e3 v w hE).mono fun r w' ⟨h1, h2⟩ => ?_
    subst h2
    refine ⟨by rw [h1]; simp [PG.err, errV], ⟨vs, ?_, fun k hk => Or.inl hk⟩, Ch.refl _ _⟩
    have e : G.add v v = G := by simp [PG.add]
    rw [e]
    exact h
  · exact edge_two B g ob vs G e1 e2 e3 v u w h hE hne hnv hne2
end Go.Proofs.YtjifdcklmpibpaaDoor
