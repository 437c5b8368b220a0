/- ROWS: what every statement of this seat owes behind its walk; how words and bytes that came in are opened. -/
import Derived.Test.YtagillnkdaanaaaRb
import Derived.ProofKit
import Derived.Lib.SmallJoins
import Derived.ChangeSlices
namespace Go.Proofs.Ytagillnkdaanaaa
set_option linter.unusedVariables false
set_option linter.unusedSimpArgs false
open Go.ChangeShapes Go.WideShapes Go.ChangeAt Go.RowKit

theorem Try.own : ownKnob Try.prog.godebug = none := by kernel_rfl
theorem Try.laidOut : laidOutB Try.prog = true := by kernel_rfl

section
variable {H : Type} {enc : TypeId × Value → H}

/-- What came in reads behind the call as it did, if nothing below has changed. -/
theorem all_stay {W W' : World} (hb : Below W.heap.size W W') (sp : Nat → Bool) : ∀ (ts : List TypeId) (vs : List Value) (ds : List (DataW H)) (ps : List MemPlace),
    (∀ t ∈ ts, Try.prog.readableRec t = true ∧ t < Try.prog.types.size) → DataW.TrodAll enc Try.prog W 0 (fun _ => true) true ts vs ds ps → (∀ p ∈ ps, p.block < W.heap.size) → (∀ p ∈ ps, sp p.block = true) →
    DataW.TrodAll enc Try.prog W' 0 sp true ts vs ds ps
  | [], [], [], _, _, h, _, _ => h
  | t :: ts, v :: vs, d :: ds, ps, hr, h, hlt, hs => by
    obtain ⟨p, q, h1, h2, rfl⟩ := h
    exact ⟨p, q, WideElems.Trod_stays Try.laidOut (hr t (by simp)).1 (hr t (by simp)).2 h1 (fun x hx => hb.same (hlt x (by simp [hx]))) (fun x hx => hs x (by simp [hx])),
      all_stay hb sp ts vs ds q (fun t' ht => hr t' (by simp [ht])) h2 (fun x hx => hlt x (by simp [hx])) (fun x hx => hs x (by simp [hx])), rfl⟩
  | [], _ :: _, _, _, _, h, _, _ => by simp [DataW.TrodAll] at h
  | [], [], _ :: _, _, _, h, _, _ => by simp [DataW.TrodAll] at h
  | _ :: _, [], _, _, _, h, _, _ => by simp [DataW.TrodAll] at h
  | _ :: _, _ :: _, [], _, _, h, _, _ => by simp [DataW.TrodAll] at h

/-- A statement's answer: true; what came in reads as it did. -/
theorem law_post {f : Func} {s : ChangeSpec} {W W' : World} {args : Array Value} {ds gs : List (DataW H)} {before : List MemPlace} {e1 e2 e3 e4 : Bool}
    (hW : DataW.Whole enc Try.prog f.params.toList s.vars e1 W args.toList ds gs before) (hv : s.vars = []) (hr : f.resultTypes = #[4]) (hp0 : f.params.toList.all (fun t => Try.prog.readableRec t && decide (t < Try.prog.types.size)) = true)
    (hs : (s.fn H (ds ++ gs)).results = [.lit (.bool true)] ∧ (s.fn H (ds ++ gs)).args = ds ∧ (s.fn H (ds ++ gs)).vars = []) (hb : Below W.heap.size W W') :
    s.post enc Try.prog f e1 e2 e3 e4 W args (.bool true) W' := by
  have hp : ∀ t ∈ f.params.toList, Try.prog.readableRec t = true ∧ t < Try.prog.types.size := fun t ht => by
    have := List.all_eq_true.1 hp0 t ht
    simpa using this
  have hlt : ∀ p ∈ before, p.block < W.heap.size := fun p hp => hW.lt p hp
  have hW0 := hW
  obtain ⟨p, q, hA, hV, rfl, hz, hn⟩ := hW
  rw [hv] at hV
  cases gs with
  | cons g gs => simp [DataW.TrodVars] at hV
  | nil =>
    simp only [DataW.TrodVars] at hV
    subst hV
    simp only [List.append_nil] at *
    obtain ⟨hs1, hs2, hs3⟩ := hs
    have hres : ∀ (b : Nat) (sp : Nat → Bool) (hd : Bool), DataW.TrodAll enc Try.prog W' b sp hd f.resultTypes.toList ((Value.bool true).resultList f.resultTypes.size) (s.fn H ds).results [] := by
      intro b sp hd
      rw [hs1, hr]
      exact trodAll_mk1 (shut_bool Try.underlying4 true)
    have hargs : ∀ sp : Nat → Bool, (∀ x ∈ p, sp x.block = true) → DataW.TrodAll enc Try.prog W' 0 sp true f.params.toList args.toList (s.fn H ds).args p := by
      intro sp hsp
      rw [hs2]
      exact all_stay hb sp _ _ _ _ hp hA hlt hsp
    have hvars : ∀ sp : Nat → Bool, DataW.TrodVars enc Try.prog W' sp s.vars (s.fn H ds).vars [] := by
      intro sp
      rw [hs3, hv]
      simp [DataW.TrodVars]
    have hold : ∀ x ∈ p, (fun b => decide (b < W.heap.size)) x.block = true := fun x hx => by simpa using hlt x hx
    refine ⟨ds, [], p, [], p, [], hW0, by simpa using hres _ _ _, by simpa using hargs _ hold, by simpa using hvars _, World.keptBut_mono (fun x hx => ⟨hx, by simpa using hx⟩) (hb.frame (· ∈ p)), fun _ => ?_⟩
    refine ⟨?_, _, _, ([] ++ p) ++ [], ⟨[] ++ p, [], trodAll_append (hargs _ (fun _ _ => rfl)) (hres _ _ _), hvars _, rfl, ?_, ?_⟩, ?_⟩
    · exact ok_one (P := Try.prog) (W' := W') hr rfl (okWide_bool_mk Try.underlying4 true)
    · intro b off hx
      have hin : MemPlace.cell b off ∈ p := by simpa using hx
      rw [hb.frozen (hlt _ hin)]
      exact hz b off hin
    · intro ha
      simpa using hn ha
    · intro x hx _
      simpa using hx

theorem nat_of_wf {z : Int} (h : (Lit.int .u64 z).wf = true) : ∃ n : Nat, z = n ∧ n < 18446744073709551616 := by
  simp only [Lit.wf, Bool.and_eq_true, decide_eq_true_eq] at h
  have h1 : IntKind.u64.min = 0 := by rfl
  have h2 : IntKind.u64.max = 18446744073709551615 := by rfl
  rw [h1, h2] at h
  exact ⟨z.toNat, by omega, by omega⟩

theorem nat16_of_wf {z : Int} (h : (Lit.int .u16 z).wf = true) : ∃ n : Nat, z = n ∧ n < 65536 := by
  simp only [Lit.wf, Bool.and_eq_true, decide_eq_true_eq] at h
  have h1 : IntKind.u16.min = 0 := by rfl
  have h2 : IntKind.u16.max = 65535 := by rfl
  rw [h1, h2] at h
  exact ⟨z.toNat, by omega, by omega⟩

theorem nat8_of_wf {z : Int} (h : (Lit.int .u8 z).wf = true) : ∃ n : Nat, z = n ∧ n < 256 := by
  simp only [Lit.wf, Bool.and_eq_true, decide_eq_true_eq] at h
  have h1 : IntKind.u8.min = 0 := by rfl
  have h2 : IntKind.u8.max = 255 := by rfl
  rw [h1, h2] at h
  exact ⟨z.toNat, by omega, by omega⟩

/-- A slice that came in points at no spot. -/
theorem spot_none {W : World} {base : Nat} {t e : TypeId} {a : Addr} {n cap : Nat} (ht : Try.prog.underlying t = some (.slice e)) (hv : Value.okWide Try.prog W .any base t (.slice (some a) n cap)) : a.spot = none := by
  unfold Value.okWide at hv
  simp only [ht] at hv
  unfold Cell.okWide at hv
  simp only [ht] at hv
  unfold Cell.ok at hv
  simp only [ht] at hv
  exact hv.2.2.2.1

/-- A slice that came in is a slice. -/
theorem slice_shape {W : World} {base : Nat} {t e : TypeId} {v : Value} (ht : Try.prog.underlying t = some (.slice e)) (hv : Value.okWide Try.prog W .any base t v) : ∃ A n cap, v = .slice A n cap := by
  unfold Value.okWide at hv
  simp only [ht] at hv
  unfold Cell.okWide at hv
  simp only [ht] at hv
  unfold Cell.ok at hv
  simp only [ht] at hv
  cases v <;> simp_all

/-- Words that came in. -/
theorem open_words {W : World} {base : Nat} {v : Value} {d : DataW H} {p : List MemPlace} (hv : Value.okWide Try.prog W .any base 23 v) (h : DataW.Trod enc Try.prog W 0 (fun _ => true) true 23 v d p) :
    ∃ (A : Option Addr) (n cap : Nat) (x : Nat → Nat), v = .slice A n cap ∧ WIn W A n x ∧ n ≤ 9223372036854775807 := by
  obtain ⟨A, n, cap, rfl⟩ := slice_shape Try.underlying23 hv
  obtain ⟨fuel, h⟩ := h
  rcases open_ints Try.underlying23 Try.underlying39 (by kernel_rfl) h with ⟨e1, _⟩ | ⟨a, len, cap, zs, e1, hb, hl, hm, hz, hx, hc, hw⟩
  · simp only [Value.cells, List.cons.injEq, and_true, Value.slice.injEq] at e1
    obtain ⟨rfl, rfl, rfl⟩ := e1
    exact ⟨none, 0, 0, fun _ => 0, rfl, fun j hj => by omega, by omega⟩
  · simp only [Value.cells, List.cons.injEq, and_true, Value.slice.injEq] at e1
    obtain ⟨rfl, rfl, rfl⟩ := e1
    simp only [if_true] at hz
    have hm' : cap ≤ 9223372036854775807 := hm
    have hsp := spot_none Try.underlying23 hv
    refine ⟨some a, n, cap, fun j => (zs.getD j 0).toNat, rfl, fun j hj => ?_, by omega⟩
    have hmem : zs.getD j 0 ∈ zs := by
      have : zs.getD j 0 = zs[j]'(by omega) := by simp [List.getD, show j < zs.length by omega]
      rw [this]
      exact List.getElem_mem _
    obtain ⟨x, hx1, hx2⟩ := nat_of_wf (hw _ hmem)
    have hcj := hc j (by omega)
    have e : a.add j = ⟨a.block, a.off + j, none⟩ := by cases a; simp_all [Addr.add]
    refine ⟨by show (zs.getD j 0).toNat < _; rw [hx1]; simpa using hx2, a.block, a.off, by cases a; simp_all, ?_⟩
    show W.cell? _ = some (.int .u64 ((zs.getD j 0).toNat : Nat))
    rw [← e, hcj, hx1]
    simp only [Int.toNat_natCast]

/-- Bytes that came in. -/
theorem open_bytes {W : World} {base : Nat} {v : Value} {d : DataW H} {p : List MemPlace} (hv : Value.okWide Try.prog W .any base 24 v) (h : DataW.Trod enc Try.prog W 0 (fun _ => true) true 24 v d p) :
    ∃ (A : Option Addr) (n cap : Nat) (f : Nat → Int), v = .slice A n cap ∧ Raw W (.slice A n cap) n f ∧ n ≤ 9223372036854775807 := by
  obtain ⟨A, n, cap, rfl⟩ := slice_shape Try.underlying24 hv
  obtain ⟨fuel, h⟩ := h
  rcases open_ints Try.underlying24 Try.underlying5 (by kernel_rfl) h with ⟨e1, _⟩ | ⟨a, len, cap, zs, e1, hb, hl, hm, hz, hx, hc, hw⟩
  · simp only [Value.cells, List.cons.injEq, and_true, Value.slice.injEq] at e1
    obtain ⟨rfl, rfl, rfl⟩ := e1
    exact ⟨none, 0, 0, fun _ => 0, rfl, ⟨none, 0, rfl, by omega, by omega, fun _ => rfl, fun a e => (by cases e), fun j hj => by omega⟩, by omega⟩
  · simp only [Value.cells, List.cons.injEq, and_true, Value.slice.injEq] at e1
    obtain ⟨rfl, rfl, rfl⟩ := e1
    simp only [if_true] at hz
    have hm' : cap ≤ 9223372036854775807 := hm
    have hsp := spot_none Try.underlying24 hv
    refine ⟨some a, n, cap, fun j => zs.getD j 0, rfl, ⟨some a, cap, rfl, hl, hm', fun e => (by cases e), fun b e => (by cases e; exact hsp), fun j hj => ?_⟩, by omega⟩
    have hcj := hc j (by omega)
    have e : a.add j = ⟨a.block, a.off + j, none⟩ := by cases a; simp_all [Addr.add]
    exact ⟨a.block, a.off, by cases a; simp_all, by rw [← e]; exact hcj⟩
end
end Go.Proofs.Ytagillnkdaanaaa
