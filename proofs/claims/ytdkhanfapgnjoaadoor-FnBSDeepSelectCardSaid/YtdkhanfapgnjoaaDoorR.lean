/- ROWS: what every statement of this seat owes behind its walk; how a bitset that came in is opened. -/
import Derived.Test.YtdkhanfapgnjoaaDoorWg
import Derived.ProofKit
import Derived.Lib.SmallJoins
import Derived.ChangeSlices
namespace Go.Proofs.YtdkhanfapgnjoaaDoor
set_option linter.unusedVariables false
set_option linter.unusedSimpArgs false
open Go.ChangeShapes Go.WideShapes Go.ChangeAt Go.RowKit

theorem Tryd.own : ownKnob Tryd.prog.godebug = none := by kernel_rfl
theorem Tryd.laidOut : laidOutB Tryd.prog = true := by kernel_rfl

section
variable {H : Type} {enc : TypeId × Value → H}

/-- What came in reads behind the call as it did, if nothing below has changed. -/
theorem all_stay {W W' : World} (hb : Below W.heap.size W W') (sp : Nat → Bool) : ∀ (ts : List TypeId) (vs : List Value) (ds : List (DataW H)) (ps : List MemPlace),
    (∀ t ∈ ts, Tryd.prog.readableRec t = true ∧ t < Tryd.prog.types.size) → DataW.TrodAll enc Tryd.prog W 0 (fun _ => true) true ts vs ds ps → (∀ p ∈ ps, p.block < W.heap.size) → (∀ p ∈ ps, sp p.block = true) →
    DataW.TrodAll enc Tryd.prog W' 0 sp true ts vs ds ps
  | [], [], [], _, _, h, _, _ => h
  | t :: ts, v :: vs, d :: ds, ps, hr, h, hlt, hs => by
    obtain ⟨p, q, h1, h2, rfl⟩ := h
    exact ⟨p, q, WideElems.Trod_stays Tryd.laidOut (hr t (by simp)).1 (hr t (by simp)).2 h1 (fun x hx => hb.same (hlt x (by simp [hx]))) (fun x hx => hs x (by simp [hx])),
      all_stay hb sp ts vs ds q (fun t' ht => hr t' (by simp [ht])) h2 (fun x hx => hlt x (by simp [hx])) (fun x hx => hs x (by simp [hx])), rfl⟩
  | [], _ :: _, _, _, _, h, _, _ => by simp [DataW.TrodAll] at h
  | [], [], _ :: _, _, _, h, _, _ => by simp [DataW.TrodAll] at h
  | _ :: _, [], _, _, _, h, _, _ => by simp [DataW.TrodAll] at h
  | _ :: _, _ :: _, [], _, _, h, _, _ => by simp [DataW.TrodAll] at h

/-- A statement's answer: true; what came in reads as it did. -/
theorem law_post {f : Func} {s : ChangeSpec} {W W' : World} {args : Array Value} {ds gs : List (DataW H)} {before : List MemPlace} {e1 e2 e3 e4 : Bool}
    (hW : DataW.Whole enc Tryd.prog f.params.toList s.vars e1 W args.toList ds gs before) (hv : s.vars = []) (hr : f.resultTypes = #[4]) (hp0 : f.params.toList.all (fun t => Tryd.prog.readableRec t && decide (t < Tryd.prog.types.size)) = true)
    (hs : (s.fn H (ds ++ gs)).results = [.lit (.bool true)] ∧ (s.fn H (ds ++ gs)).args = ds ∧ (s.fn H (ds ++ gs)).vars = []) (hb : Below W.heap.size W W') :
    s.post enc Tryd.prog f e1 e2 e3 e4 W args (.bool true) W' := by
  have hp : ∀ t ∈ f.params.toList, Tryd.prog.readableRec t = true ∧ t < Tryd.prog.types.size := fun t ht => by
    have := List.all_eq_true.1 hp0 t ht
    simpa using this
  have hlt : ∀ p ∈ before, p.block < W.heap.size := fun p hp => hW.lt p hp
  have hW0 := hW
  obtain ⟨p, q, hA, hV, rfl, hz, hn⟩ := hW
  rw [hv] at hV
  cases gs with
  | cons g gs => simp [DataW.TrodVars] at hV
  | nil =>
    simp only [DataW.TrodVars] at hV
    subst hV
    simp only [List.append_nil] at *
    obtain ⟨hs1, hs2, hs3⟩ := hs
    have hres : ∀ (b : Nat) (sp : Nat → Bool) (hd : Bool), DataW.TrodAll enc Tryd.prog W' b sp hd f.resultTypes.toList ((Value.bool true).resultList f.resultTypes.size) (s.fn H ds).results [] := by
      intro b sp hd
      rw [hs1, hr]
      exact trodAll_mk1 (shut_bool Tryd.underlying4 true)
    have hargs : ∀ sp : Nat → Bool, (∀ x ∈ p, sp x.block = true) → DataW.TrodAll enc Tryd.prog W' 0 sp true f.params.toList args.toList (s.fn H ds).args p := by
      intro sp hsp
      rw [hs2]
      exact all_stay hb sp _ _ _ _ hp hA hlt hsp
    have hvars : ∀ sp : Nat → Bool, DataW.TrodVars enc Tryd.prog W' sp s.vars (s.fn H ds).vars [] := by
      intro sp
      rw [hs3, hv]
      simp [DataW.TrodVars]
    have hold : ∀ x ∈ p, (fun b => decide (b < W.heap.size)) x.block = true := fun x hx => by simpa using hlt x hx
    refine ⟨ds, [], p, [], p, [], hW0, by simpa using hres _ _ _, by simpa using hargs _ hold, by simpa using hvars _, World.keptBut_mono (fun x hx => ⟨hx, by simpa using hx⟩) (hb.frame (· ∈ p)), fun _ => ?_⟩
    refine ⟨?_, _, _, ([] ++ p) ++ [], ⟨[] ++ p, [], trodAll_append (hargs _ (fun _ _ => rfl)) (hres _ _ _), hvars _, rfl, ?_, ?_⟩, ?_⟩
    · exact ok_one (P := Tryd.prog) (W' := W') hr rfl (okWide_bool_mk Tryd.underlying4 true)
    · intro b off hx
      have hin : MemPlace.cell b off ∈ p := by simpa using hx
      rw [hb.frozen (hlt _ hin)]
      exact hz b off hin
    · intro ha
      simpa using hn ha
    · intro x hx _
      simpa using hx

theorem nat_of_wf {z : Int} (h : (Lit.int .u64 z).wf = true) : ∃ n : Nat, z = n ∧ n < 18446744073709551616 := by
  simp only [Lit.wf, Bool.and_eq_true, decide_eq_true_eq] at h
  have h1 : IntKind.u64.min = 0 := by rfl
  have h2 : IntKind.u64.max = 18446744073709551615 := by rfl
  rw [h1, h2] at h
  exact ⟨z.toNat, by omega, by omega⟩

theorem nat16_of_wf {z : Int} (h : (Lit.int .u16 z).wf = true) : ∃ n : Nat, z = n ∧ n < 65536 := by
  simp only [Lit.wf, Bool.and_eq_true, decide_eq_true_eq] at h
  have h1 : IntKind.u16.min = 0 := by rfl
  have h2 : IntKind.u16.max = 65535 := by rfl
  rw [h1, h2] at h
  exact ⟨z.toNat, by omega, by omega⟩

/-- A bitset that came in. -/
theorem open_bits {W : World} {base : Nat} {v : Value} {d : DataW H} {p : List MemPlace} (hv : Value.okWide Tryd.prog W .any base 25 v) (h : DataW.Trod enc Tryd.prog W 0 (fun _ => true) true 25 v d p) :
    ∃ (l : Nat) (A : Option Addr) (n cap : Nat) (xs : List Nat), v = .agg #[.int .u64 l, .slice A n cap] ∧ Lst 0 W (.slice A n cap) xs ∧ xs.length = n ∧ n ≤ 9223372036854775807 ∧ ∀ j (hj : j < xs.length), xs[j] < 18446744073709551616 := by
  obtain ⟨v0, v1, y0, y1, m, rfl, rfl, rfl, h0, h1⟩ := Go.Joins.open_agg2 Tryd.underlying25 (by kernel_rfl) (by kernel_rfl) hv h
  obtain ⟨z, e0, hy0, hw0⟩ := DataW.trod_int Tryd.underlying22 h0
  obtain ⟨l, rfl, _⟩ := nat_of_wf hw0
  simp only [List.cons.injEq, and_true] at e0
  subst e0
  rcases open_ints Tryd.underlying23 Tryd.underlying22 (by kernel_rfl) h1 with ⟨e1, _⟩ | ⟨a, len, cap, zs, e1, hb, hl, hm, hz, hx, hc, hw⟩
  · simp only [List.cons.injEq, and_true] at e1
    subst e1
    exact ⟨l, none, 0, 0, [], rfl, ⟨none, 0, rfl, fun j hj => by simp at hj⟩, rfl, by omega, fun j hj => by simp at hj⟩
  · simp only [List.cons.injEq, and_true] at e1
    subst e1
    simp only [if_true] at hz
    have hm' : cap ≤ 9223372036854775807 := hm
    have hsp : ∀ (hp : 0 < len), a.spot = none := fun hp => by
      have := hc 0 (by omega)
      have := World.cell?_spot this
      simpa [Addr.add] using this
    have hnat : ∀ j, j < cap → ∃ x : Nat, zs.getD j 0 = x ∧ x < 18446744073709551616 := fun j hj => by
      refine nat_of_wf (hw _ ?_)
      have : zs.getD j 0 = zs[j]'(by omega) := by simp [List.getD, show j < zs.length by omega]
      rw [this]
      exact List.getElem_mem _
    refine ⟨l, some a, len, cap, (zs.take len).map Int.toNat, rfl, ⟨some a, cap, by simp; omega, fun j hj => ?_⟩, by simp; omega, by omega, fun j hj => ?_⟩
    · simp at hj
      obtain ⟨x, hx1, hx2⟩ := hnat j (by omega)
      have hs := hsp (by omega)
      refine ⟨a.block, a.off, by omega, by cases a; simp_all, ?_⟩
      have := hc j (by omega)
      rw [hx1] at this
      have e : a.add j = ⟨a.block, a.off + j, none⟩ := by cases a; simp_all [Addr.add]
      rw [← e, this]
      simp only [List.getElem_map, List.getElem_take]
      have : zs[j]'(by omega) = (x : Int) := by rw [← hx1]; simp [List.getD, show j < zs.length by omega]
      rw [this]
      simp
    · simp at hj
      obtain ⟨x, hx1, hx2⟩ := hnat j (by omega)
      simp only [List.getElem_map, List.getElem_take]
      have : zs[j]'(by omega) = (x : Int) := by rw [← hx1]; simp [List.getD, show j < zs.length by omega]
      rw [this]
      simpa using hx2
end
end Go.Proofs.YtdkhanfapgnjoaaDoor
