/- ROWS: what every statement of this seat owes behind its walk; numbers that came in. -/
import Derived.Test.YtdcjjicdpoakfaaM
import Derived.ProofKit
import Derived.Lib.SmallJoins
import Derived.ChangeSlices
namespace Go.Proofs.Ytdcjjicdpoakfaa
set_option linter.unusedVariables false
set_option linter.unusedSimpArgs false
open Go.ChangeShapes Go.WideShapes Go.ChangeAt Go.RowKit

theorem Try.own : ownKnob Try.prog.godebug = none := by kernel_rfl
theorem Try.laidOut : laidOutB Try.prog = true := by kernel_rfl

section
variable {H : Type} {enc : TypeId × Value → H}

/-- What came in reads behind the call as it did, if nothing below has changed. -/
theorem all_stay {W W' : World} (hb : Below W.heap.size W W') (sp : Nat → Bool) : ∀ (ts : List TypeId) (vs : List Value) (ds : List (DataW H)) (ps : List MemPlace),
    (∀ t ∈ ts, Try.prog.readableRec t = true ∧ t < Try.prog.types.size) → DataW.TrodAll enc Try.prog W 0 (fun _ => true) true ts vs ds ps → (∀ p ∈ ps, p.block < W.heap.size) → (∀ p ∈ ps, sp p.block = true) →
    DataW.TrodAll enc Try.prog W' 0 sp true ts vs ds ps
  | [], [], [], _, _, h, _, _ => h
  | t :: ts, v :: vs, d :: ds, ps, hr, h, hlt, hs => by
    obtain ⟨p, q, h1, h2, rfl⟩ := h
    exact ⟨p, q, WideElems.Trod_stays Try.laidOut (hr t (by simp)).1 (hr t (by simp)).2 h1 (fun x hx => hb.same (hlt x (by simp [hx]))) (fun x hx => hs x (by simp [hx])),
      all_stay hb sp ts vs ds q (fun t' ht => hr t' (by simp [ht])) h2 (fun x hx => hlt x (by simp [hx])) (fun x hx => hs x (by simp [hx])), rfl⟩
  | [], _ :: _, _, _, _, h, _, _ => by simp [DataW.TrodAll] at h
  | [], [], _ :: _, _, _, h, _, _ => by simp [DataW.TrodAll] at h
  | _ :: _, [], _, _, _, h, _, _ => by simp [DataW.TrodAll] at h
  | _ :: _, _ :: _, [], _, _, h, _, _ => by simp [DataW.TrodAll] at h

/-- A statement's answer: true; what came in reads as it did. -/
theorem law_post {f : Func} {s : ChangeSpec} {W W' : World} {args : Array Value} {ds gs : List (DataW H)} {before : List MemPlace} {e1 e2 e3 e4 : Bool}
    (hW : DataW.Whole enc Try.prog f.params.toList s.vars e1 W args.toList ds gs before) (hv : s.vars = []) (hr : f.resultTypes = #[4]) (hp0 : f.params.toList.all (fun t => Try.prog.readableRec t && decide (t < Try.prog.types.size)) = true)
    (hs : (s.fn H (ds ++ gs)).results = [.lit (.bool true)] ∧ (s.fn H (ds ++ gs)).args = ds ∧ (s.fn H (ds ++ gs)).vars = []) (hb : Below W.heap.size W W') :
    s.post enc Try.prog f e1 e2 e3 e4 W args (.bool true) W' := by
  have hp : ∀ t ∈ f.params.toList, Try.prog.readableRec t = true ∧ t < Try.prog.types.size := fun t ht => by
    have := List.all_eq_true.1 hp0 t ht
    simpa using this
  have hlt : ∀ p ∈ before, p.block < W.heap.size := fun p hp => hW.lt p hp
  have hW0 := hW
  obtain ⟨p, q, hA, hV, rfl, hz, hn⟩ := hW
  rw [hv] at hV
  cases gs with
  | cons g gs => simp [DataW.TrodVars] at hV
  | nil =>
    simp only [DataW.TrodVars] at hV
    subst hV
    simp only [List.append_nil] at *
    obtain ⟨hs1, hs2, hs3⟩ := hs
    have hres : ∀ (b : Nat) (sp : Nat → Bool) (hd : Bool), DataW.TrodAll enc Try.prog W' b sp hd f.resultTypes.toList ((Value.bool true).resultList f.resultTypes.size) (s.fn H ds).results [] := by
      intro b sp hd
      rw [hs1, hr]
      exact trodAll_mk1 (shut_bool Try.underlying4 true)
    have hargs : ∀ sp : Nat → Bool, (∀ x ∈ p, sp x.block = true) → DataW.TrodAll enc Try.prog W' 0 sp true f.params.toList args.toList (s.fn H ds).args p := by
      intro sp hsp
      rw [hs2]
      exact all_stay hb sp _ _ _ _ hp hA hlt hsp
    have hvars : ∀ sp : Nat → Bool, DataW.TrodVars enc Try.prog W' sp s.vars (s.fn H ds).vars [] := by
      intro sp
      rw [hs3, hv]
      simp [DataW.TrodVars]
    have hold : ∀ x ∈ p, (fun b => decide (b < W.heap.size)) x.block = true := fun x hx => by simpa using hlt x hx
    refine ⟨ds, [], p, [], p, [], hW0, by simpa using hres _ _ _, by simpa using hargs _ hold, by simpa using hvars _, World.keptBut_mono (fun x hx => ⟨hx, by simpa using hx⟩) (hb.frame (· ∈ p)), fun _ => ?_⟩
    refine ⟨?_, _, _, ([] ++ p) ++ [], ⟨[] ++ p, [], trodAll_append (hargs _ (fun _ _ => rfl)) (hres _ _ _), hvars _, rfl, ?_, ?_⟩, ?_⟩
    · exact ok_one (P := Try.prog) (W' := W') hr rfl (okWide_bool_mk Try.underlying4 true)
    · intro b off hx
      have hin : MemPlace.cell b off ∈ p := by simpa using hx
      rw [hb.frozen (hlt _ hin)]
      exact hz b off hin
    · intro ha
      simpa using hn ha
    · intro x hx _
      simpa using hx

theorem nat_of_wf {z : Int} (h : (Lit.int .u64 z).wf = true) : ∃ n : Nat, z = n ∧ n < 18446744073709551616 := by
  simp only [Lit.wf, Bool.and_eq_true, decide_eq_true_eq] at h
  have h1 : IntKind.u64.min = 0 := by rfl
  have h2 : IntKind.u64.max = 18446744073709551615 := by rfl
  rw [h1, h2] at h
  exact ⟨z.toNat, by omega, by omega⟩

theorem nat8_of_wf {z : Int} (h : (Lit.int .u8 z).wf = true) : ∃ n : Nat, z = n ∧ n < 256 := by
  simp only [Lit.wf, Bool.and_eq_true, decide_eq_true_eq] at h
  have h1 : IntKind.u8.min = 0 := by rfl
  have h2 : IntKind.u8.max = 255 := by rfl
  rw [h1, h2] at h
  exact ⟨z.toNat, by omega, by omega⟩

end
end Go.Proofs.Ytdcjjicdpoakfaa
