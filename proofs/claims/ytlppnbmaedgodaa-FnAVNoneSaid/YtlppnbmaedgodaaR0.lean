/- ROWS: what every statement of a seat owes behind its walk, with package-level variables that read as before. -/
import Derived.Test.YtlppnbmaedgodaaS
import Derived.ProofKit
import Derived.Lib.SmallJoins
import Derived.ChangeSlices
import Derived.ChangeVars
import Derived.Deep.Slices
namespace Go.Proofs.Ytlppnbmaedgodaa
set_option linter.unusedVariables false
set_option linter.unusedSimpArgs false
open Go.ChangeShapes Go.WideShapes Go.ChangeAt Go.RowKit

theorem Try.own : ownKnob Try.prog.godebug = none := by kernel_rfl
theorem Try.laidOut : laidOutB Try.prog = true := by kernel_rfl

section
variable {H : Type} {enc : TypeId × Value → H}

/-- What came in reads behind the call as it did, if nothing below has changed. -/
theorem all_stay {W W' : World} (hb : Below W.heap.size W W') (sp : Nat → Bool) : ∀ (ts : List TypeId) (vs : List Value) (ds : List (DataW H)) (ps : List MemPlace),
    (∀ t ∈ ts, Try.prog.readableRec t = true ∧ t < Try.prog.types.size) → DataW.TrodAll enc Try.prog W 0 (fun _ => true) true ts vs ds ps → (∀ p ∈ ps, p.block < W.heap.size) → (∀ p ∈ ps, sp p.block = true) →
    DataW.TrodAll enc Try.prog W' 0 sp true ts vs ds ps
  | [], [], [], _, _, h, _, _ => h
  | t :: ts, v :: vs, d :: ds, ps, hr, h, hlt, hs => by
    obtain ⟨p, q, h1, h2, rfl⟩ := h
    exact ⟨p, q, WideElems.Trod_stays Try.laidOut (hr t (by simp)).1 (hr t (by simp)).2 h1 (fun x hx => hb.same (hlt x (by simp [hx]))) (fun x hx => hs x (by simp [hx])),
      all_stay hb sp ts vs ds q (fun t' ht => hr t' (by simp [ht])) h2 (fun x hx => hlt x (by simp [hx])) (fun x hx => hs x (by simp [hx])), rfl⟩
  | [], _ :: _, _, _, _, h, _, _ => by simp [DataW.TrodAll] at h
  | [], [], _ :: _, _, _, h, _, _ => by simp [DataW.TrodAll] at h
  | _ :: _, [], _, _, _, h, _, _ => by simp [DataW.TrodAll] at h
  | _ :: _, _ :: _, [], _, _, h, _, _ => by simp [DataW.TrodAll] at h

/-- A statement's answer: true; what came in, and the named variables, read as they did. -/
theorem law_postV {f : Func} {s : ChangeSpec} {W W' : World} {args : Array Value} {ds gs : List (DataW H)} {before : List MemPlace} {e1 e2 e3 : Bool}
    (hW : DataW.Whole enc Try.prog f.params.toList s.vars e1 W args.toList ds gs before) (hr : f.resultTypes = #[4]) (hp0 : f.params.toList.all (fun t => Try.prog.readableRec t && decide (t < Try.prog.types.size)) = true)
    (hs : (s.fn H (ds ++ gs)).results = [.lit (.bool true)] ∧ (s.fn H (ds ++ gs)).args = ds ∧ (s.fn H (ds ++ gs)).vars = gs) (hb : Below W.heap.size W W')
    (hVs : ∀ q, DataW.TrodVars enc Try.prog W (fun _ => true) s.vars gs q → ∀ sp, DataW.TrodVars enc Try.prog W' sp s.vars gs q) :
    s.post enc Try.prog f e1 e2 e3 false W args (.bool true) W' := by
  have hp : ∀ t ∈ f.params.toList, Try.prog.readableRec t = true ∧ t < Try.prog.types.size := fun t ht => by
    have := List.all_eq_true.1 hp0 t ht
    simpa using this
  have hlt : ∀ p ∈ before, p.block < W.heap.size := fun p hp => hW.lt p hp
  have hW0 := hW
  obtain ⟨p, q, hA, hV, rfl, hz, hn⟩ := hW
  obtain ⟨hs1, hs2, hs3⟩ := hs
  have hres : ∀ (b : Nat) (sp : Nat → Bool) (hd : Bool), DataW.TrodAll enc Try.prog W' b sp hd f.resultTypes.toList ((Value.bool true).resultList f.resultTypes.size) (s.fn H (ds ++ gs)).results [] := by
    intro b sp hd
    rw [hs1, hr]
    exact trodAll_mk1 (shut_bool Try.underlying4 true)
  have hargs : DataW.TrodAll enc Try.prog W' 0 (fun b => decide (b < W.heap.size)) true f.params.toList args.toList (s.fn H (ds ++ gs)).args p := by
    rw [hs2]
    exact all_stay hb _ _ _ _ _ hp hA (fun x hx => hlt x (by simp [hx])) (fun x hx => by simpa using hlt x (by simp [hx]))
  have hvars : DataW.TrodVars enc Try.prog W' (fun b => decide (b < W.heap.size)) s.vars (s.fn H (ds ++ gs)).vars q := by
    rw [hs3]
    exact hVs q hV _
  exact ⟨ds, gs, p ++ q, [], p, q, hW0, by simpa using hres _ _ _, hargs, hvars, World.keptBut_mono (fun x hx => ⟨hx, by simpa using hx⟩) (hb.frame (· ∈ p ++ q)), fun h => by cases h⟩

theorem law_post {f : Func} {s : ChangeSpec} {W W' : World} {args : Array Value} {ds gs : List (DataW H)} {before : List MemPlace} {e1 e2 e3 : Bool}
    (hW : DataW.Whole enc Try.prog f.params.toList s.vars e1 W args.toList ds gs before) (hv : s.vars = []) (hr : f.resultTypes = #[4]) (hp0 : f.params.toList.all (fun t => Try.prog.readableRec t && decide (t < Try.prog.types.size)) = true)
    (hs : (s.fn H (ds ++ gs)).results = [.lit (.bool true)] ∧ (s.fn H (ds ++ gs)).args = ds ∧ (s.fn H (ds ++ gs)).vars = []) (hb : Below W.heap.size W W') :
    s.post enc Try.prog f e1 e2 e3 false W args (.bool true) W' := by
  have hg : gs = [] := by
    obtain ⟨p, q, hA, hV, _⟩ := hW
    rw [hv] at hV
    cases gs with
    | nil => rfl
    | cons g gs => simp [DataW.TrodVars] at hV
  subst hg
  refine law_postV hW hr hp0 hs hb (fun q h sp => ?_)
  rw [hv] at h ⊢
  simpa [DataW.TrodVars] using h

theorem wf_u8 {z : Int} (h : (Lit.int .u8 z).wf = true) : ∃ n : Nat, z = n ∧ n < 256 := by
  simp only [Lit.wf, Bool.and_eq_true, decide_eq_true_eq] at h
  have h1 : IntKind.u8.min = 0 := by rfl
  have h2 : IntKind.u8.max = 255 := by rfl
  rw [h1, h2] at h
  exact ⟨z.toNat, by omega, by omega⟩
theorem wf_i64 {z : Int} (h : (Lit.int .i64 z).wf = true) : -9223372036854775808 ≤ z ∧ z ≤ 9223372036854775807 := by
  simp only [Lit.wf, Bool.and_eq_true, decide_eq_true_eq] at h
  have h1 : IntKind.i64.min = -9223372036854775808 := by rfl
  have h2 : IntKind.i64.max = 9223372036854775807 := by rfl
  rwa [h1, h2] at h
theorem wf_i16 {z : Int} (h : (Lit.int .i16 z).wf = true) : -32768 ≤ z ∧ z ≤ 32767 := by
  simp only [Lit.wf, Bool.and_eq_true, decide_eq_true_eq] at h
  have h1 : IntKind.i16.min = -32768 := by rfl
  have h2 : IntKind.i16.max = 32767 := by rfl
  rwa [h1, h2] at h
end
end Go.Proofs.Ytlppnbmaedgodaa
