/- ROWS: what every statement of this seat owes behind its walk; how steps that came in are opened. -/
import Derived.Test.YtjliofloheellaaW
import Derived.ProofKit
import Derived.Lib.SmallJoins
import Derived.ChangeSlices
import Derived.Deep.Slices
namespace Go.Proofs.Ytjliofloheellaa
set_option linter.unusedVariables false
set_option linter.unusedSimpArgs false
open Go.ChangeShapes Go.WideShapes Go.ChangeAt Go.RowKit

theorem Try.own : ownKnob Try.prog.godebug = none := by kernel_rfl
theorem Try.laidOut : laidOutB Try.prog = true := by kernel_rfl

section
variable {H : Type} {enc : TypeId × Value → H}

/-- What came in reads behind the call as it did, if nothing below has changed. -/
theorem all_stay {W W' : World} (hb : Below W.heap.size W W') (sp : Nat → Bool) : ∀ (ts : List TypeId) (vs : List Value) (ds : List (DataW H)) (ps : List MemPlace),
    (∀ t ∈ ts, Try.prog.readableRec t = true ∧ t < Try.prog.types.size) → DataW.TrodAll enc Try.prog W 0 (fun _ => true) true ts vs ds ps → (∀ p ∈ ps, p.block < W.heap.size) → (∀ p ∈ ps, sp p.block = true) →
    DataW.TrodAll enc Try.prog W' 0 sp true ts vs ds ps
  | [], [], [], _, _, h, _, _ => h
  | t :: ts, v :: vs, d :: ds, ps, hr, h, hlt, hs => by
    obtain ⟨p, q, h1, h2, rfl⟩ := h
    exact ⟨p, q, WideElems.Trod_stays Try.laidOut (hr t (by simp)).1 (hr t (by simp)).2 h1 (fun x hx => hb.same (hlt x (by simp [hx]))) (fun x hx => hs x (by simp [hx])),
      all_stay hb sp ts vs ds q (fun t' ht => hr t' (by simp [ht])) h2 (fun x hx => hlt x (by simp [hx])) (fun x hx => hs x (by simp [hx])), rfl⟩
  | [], _ :: _, _, _, _, h, _, _ => by simp [DataW.TrodAll] at h
  | [], [], _ :: _, _, _, h, _, _ => by simp [DataW.TrodAll] at h
  | _ :: _, [], _, _, _, h, _, _ => by simp [DataW.TrodAll] at h
  | _ :: _, _ :: _, [], _, _, h, _, _ => by simp [DataW.TrodAll] at h

/-- A statement's answer: true; what came in reads as it did. -/
theorem law_post {f : Func} {s : ChangeSpec} {W W' : World} {args : Array Value} {ds gs : List (DataW H)} {before : List MemPlace} {e1 e2 e3 e4 : Bool}
    (hW : DataW.Whole enc Try.prog f.params.toList s.vars e1 W args.toList ds gs before) (hv : s.vars = []) (hr : f.resultTypes = #[4]) (hp0 : f.params.toList.all (fun t => Try.prog.readableRec t && decide (t < Try.prog.types.size)) = true)
    (hs : (s.fn H (ds ++ gs)).results = [.lit (.bool true)] ∧ (s.fn H (ds ++ gs)).args = ds ∧ (s.fn H (ds ++ gs)).vars = []) (hb : Below W.heap.size W W') :
    s.post enc Try.prog f e1 e2 e3 e4 W args (.bool true) W' := by
  have hp : ∀ t ∈ f.params.toList, Try.prog.readableRec t = true ∧ t < Try.prog.types.size := fun t ht => by
    have := List.all_eq_true.1 hp0 t ht
    simpa using this
  have hlt : ∀ p ∈ before, p.block < W.heap.size := fun p hp => hW.lt p hp
  have hW0 := hW
  obtain ⟨p, q, hA, hV, rfl, hz, hn⟩ := hW
  rw [hv] at hV
  cases gs with
  | cons g gs => simp [DataW.TrodVars] at hV
  | nil =>
    simp only [DataW.TrodVars] at hV
    subst hV
    simp only [List.append_nil] at *
    obtain ⟨hs1, hs2, hs3⟩ := hs
    have hres : ∀ (b : Nat) (sp : Nat → Bool) (hd : Bool), DataW.TrodAll enc Try.prog W' b sp hd f.resultTypes.toList ((Value.bool true).resultList f.resultTypes.size) (s.fn H ds).results [] := by
      intro b sp hd
      rw [hs1, hr]
      exact trodAll_mk1 (shut_bool Try.underlying4 true)
    have hargs : ∀ sp : Nat → Bool, (∀ x ∈ p, sp x.block = true) → DataW.TrodAll enc Try.prog W' 0 sp true f.params.toList args.toList (s.fn H ds).args p := by
      intro sp hsp
      rw [hs2]
      exact all_stay hb sp _ _ _ _ hp hA hlt hsp
    have hvars : ∀ sp : Nat → Bool, DataW.TrodVars enc Try.prog W' sp s.vars (s.fn H ds).vars [] := by
      intro sp
      rw [hs3, hv]
      simp [DataW.TrodVars]
    have hold : ∀ x ∈ p, (fun b => decide (b < W.heap.size)) x.block = true := fun x hx => by simpa using hlt x hx
    refine ⟨ds, [], p, [], p, [], hW0, by simpa using hres _ _ _, by simpa using hargs _ hold, by simpa using hvars _, World.keptBut_mono (fun x hx => ⟨hx, by simpa using hx⟩) (hb.frame (· ∈ p)), fun _ => ?_⟩
    refine ⟨?_, _, _, ([] ++ p) ++ [], ⟨[] ++ p, [], trodAll_append (hargs _ (fun _ _ => rfl)) (hres _ _ _), hvars _, rfl, ?_, ?_⟩, ?_⟩
    · exact ok_one (P := Try.prog) (W' := W') hr rfl (okWide_bool_mk Try.underlying4 true)
    · intro b off hx
      have hin : MemPlace.cell b off ∈ p := by simpa using hx
      rw [hb.frozen (hlt _ hin)]
      exact hz b off hin
    · intro ha
      simpa using hn ha
    · intro x hx _
      simpa using hx

theorem nat_of_wf {z : Int} (h : (Lit.int .u64 z).wf = true) : ∃ n : Nat, z = n ∧ n < 18446744073709551616 := by
  simp only [Lit.wf, Bool.and_eq_true, decide_eq_true_eq] at h
  have h1 : IntKind.u64.min = 0 := by rfl
  have h2 : IntKind.u64.max = 18446744073709551615 := by rfl
  rw [h1, h2] at h
  exact ⟨z.toNat, by omega, by omega⟩

theorem nat16_of_wf {z : Int} (h : (Lit.int .u16 z).wf = true) : ∃ n : Nat, z = n ∧ n < 65536 := by
  simp only [Lit.wf, Bool.and_eq_true, decide_eq_true_eq] at h
  have h1 : IntKind.u16.min = 0 := by rfl
  have h2 : IntKind.u16.max = 65535 := by rfl
  rw [h1, h2] at h
  exact ⟨z.toNat, by omega, by omega⟩

theorem steps_at {W : World} {base : Nat} {v : Value} {d : DataW H} {p : List MemPlace} (hv : Value.okWide Try.prog W .any base 23 v) (h : DataW.Trod enc Try.prog W 0 (fun _ => true) true 23 v d p) :
    ∃ (A : Option Addr) (n cap : Nat), v = .slice A n cap ∧ n ≤ 9223372036854775807 ∧ ∀ i, i < n → ∃ (b off x y : Nat), A = some ⟨b, off, none⟩ ∧ x < 18446744073709551616 ∧ y < 18446744073709551616 ∧ W.cell? ⟨b, off + i * 3 + 1, none⟩ = some (.int .u64 x) ∧ W.cell? ⟨b, off + i * 3 + 2, none⟩ = some (.int .u64 y) := by
  obtain ⟨A, n, cap, rfl⟩ := okWide_slice Try.underlying23 hv
  obtain ⟨fuel, hf⟩ := h
  rcases Deep.open_slice Try.underlying23 hf with ⟨e, _⟩ | ⟨a, len, cap', m, k, D, Pl, e, hb, hl, hm, hmm, _, hx⟩
  · simp [Value.cells] at e
    obtain ⟨rfl, rfl, rfl⟩ := e
    exact ⟨none, 0, 0, rfl, by omega, fun i hi => by omega⟩
  · simp [Value.cells] at e
    obtain ⟨rfl, rfl, rfl⟩ := e
    have hm' : cap ≤ 9223372036854775807 := hm
    simp only [if_true] at hmm
    subst hmm
    refine ⟨_, _, _, rfl, by omega, fun i hi => ?_⟩
    have c26 : Try.prog.cellsOf 26 = 3 := by kernel_rfl
    have hsp : a.spot = none := by
      obtain ⟨cs, h1, h2⟩ := hx 0 (by omega)
      obtain ⟨_, hlen, hcell⟩ := World.cells?_some h1
      have e0 := hcell 0 (by rw [c26]; omega)
      rw [c26] at hlen
      match cs, hlen with
      | [v0, v1, v2], _ =>
        have := World.cell?_spot e0
        simpa [Addr.add] using this
    obtain ⟨cs, h1, h2⟩ := hx i (by omega)
    obtain ⟨_, hlen, hcell⟩ := World.cells?_some h1
    obtain ⟨xs, k', hk, hxy, _, hxl, hfl⟩ := DataW.trod_struct Try.underlying26 h2
    rw [c26] at hlen hcell
    have c3 : Try.prog.cellsOf 3 = 1 := by kernel_rfl
    have c24 : Try.prog.cellsOf 24 = 1 := by kernel_rfl
    have e1 := hcell 1 (by omega)
    have e2 := hcell 2 (by omega)
    match xs, hxl, cs, hlen with
    | [y0, y1, y2], _, [v0, v1, v2], _ =>
      have g1 := hfl 1 _ rfl
      have g2 := hfl 2 _ rfl
      simp [c3, c24] at g1 g2
      obtain ⟨z1, q1, _, w1⟩ := DataW.trod_int Try.underlying24 g1
      obtain ⟨z2, q2, _, w2⟩ := DataW.trod_int Try.underlying24 g2
      simp only [List.cons.injEq, and_true] at q1 q2
      subst q1 q2
      obtain ⟨x, rfl, hx1⟩ := nat_of_wf w1
      obtain ⟨y, rfl, hy1⟩ := nat_of_wf w2
      have ea : ∀ j, (a.add (i * 3)).add j = ⟨a.block, a.off + i * 3 + j, none⟩ := fun j => by
        obtain ⟨b1, o1, s1⟩ := a
        simp only at hsp
        subst hsp
        have h9 : ∀ (a : Addr) (x : Nat), a.spot = none → a.add x = ⟨a.block, a.off + x, none⟩ := fun a x h => by
          obtain ⟨b, o, s⟩ := a
          simp only at h
          subst h
          unfold Addr.add
          by_cases hx : x = 0
          · simp [hx]
          · simp [hx]
        rw [h9 ⟨b1, o1, none⟩ (i * 3) rfl, h9 _ j rfl]
      rw [ea] at e1 e2
      exact ⟨a.block, a.off, x, y, by cases a; simp_all, hx1, hy1, by simpa using e1, by simpa using e2⟩
theorem open_steps {W : World} {base : Nat} {v : Value} {d : DataW H} {p : List MemPlace} (hv : Value.okWide Try.prog W .any base 23 v) (h : DataW.Trod enc Try.prog W 0 (fun _ => true) true 23 v d p) :
    ∃ (A : Option Addr) (n cap : Nat) (k v' : Nat → Nat), v = .slice A n cap ∧ n ≤ 9223372036854775807 ∧ PIn W A n k v' := by
  obtain ⟨A, n, cap, rfl, hn, hi⟩ := steps_at hv h
  have hc : ∀ i, ∃ xy : Nat × Nat, i < n → xy.1 < 18446744073709551616 ∧ xy.2 < 18446744073709551616 ∧ ∃ q o, A = some ⟨q, o, none⟩ ∧ W.cell? ⟨q, o + i * 3 + 1, none⟩ = some (.int .u64 (xy.1 : Nat)) ∧ W.cell? ⟨q, o + i * 3 + 2, none⟩ = some (.int .u64 (xy.2 : Nat)) := fun i => by
    by_cases h : i < n
    · obtain ⟨b, off, x, y, h1, h2, h3, h4, h5⟩ := hi i h
      exact ⟨(x, y), fun _ => ⟨h2, h3, b, off, h1, h4, h5⟩⟩
    · exact ⟨(0, 0), fun h' => absurd h' h⟩
  exact ⟨A, n, cap, fun i => (hc i).choose.1, fun i => (hc i).choose.2, rfl, hn, fun i h => (hc i).choose_spec h⟩
end
end Go.Proofs.Ytjliofloheellaa
