/- SETS: New, All, Exists, Flatten. -/
import Derived.Test.YtjifdcklmpibpaaT1
namespace Go.Proofs.Ytjifdcklmpibpaa
open Go.RowKit
set_option linter.unusedVariables false
set_option linter.unusedSimpArgs false

def NewSet (B : Nat) (xs : List Int) (r : Ending) (w' : World) : Prop := ∃ s mb, r = .returned (.pointer (some ⟨s, 0, none⟩)) ∧ SetM w' s mb (.slice none 0 0) (puts (fun _ => false, 0) xs).1 (puts (fun _ => false, 0) xs).2 ∧ B ≤ s ∧ B ≤ mb
def SomeB (r : Ending) : Prop := ∃ b : Bool, r = .returned (.bool b)

theorem mkMap10 (w : World) : (Instr.makeMap 54 (some (.int .i64 10))).run Try.prog w = .ok (.map (some w.heap.size)) (w.alloc (.map #[] 0)) := by
  simp [Instr.makeMap, run_underlying Try.underlying54, asInt, asIntOf, Result.andThen]

set_option maxRecDepth 100000 in
theorem new_any (A : Option Addr) (n c : Nat) (xs : List Int) (w : World) (hx : xs.length = n) (hn : n ≤ 1000000) (hA : Rd w A (fv xs)) :
    Calls Try.prog 13 #[.slice A n c] w fun r w' => NewSet w.heap.size xs r w' ∧ Ch S0 w w' := by
  have HX := Lib.hid hx
  have HA := Lib.hid hA
  have hmk := fun w => mkMap10 w
  clear hx hA
  have hS0 : SetM ((w.alloc (.map #[] 0)).alloc (.cells #[.map (some w.heap.size), .slice none 0 0] 56)) (w.heap.size + 1) w.heap.size (.slice none 0 0) (fun _ => false) 0 := by
    refine ⟨?_, ?_, by omega⟩
    · have := Blk.new (w.alloc (.map #[] 0)) #[.map (some w.heap.size), .slice none 0 0] 56
      simpa using this
    · have := (KMap.made kI w).keep ((MapKept.heap_alloc (w.alloc (.map #[] 0)) (.cells #[.map (some w.heap.size), .slice none 0 0] 56)).2 w.heap.size (by simp))
      simpa using this
  have HS0 := Lib.hid hS0
  have HC0 : Hid (Ch S0 w ((w.alloc (.map #[] 0)).alloc (.cells #[.map (some w.heap.size), .slice none 0 0] 56))) := Lib.hid (((Ch.refl S0 w).alloc _).alloc _)
  clear hS0
  go_enter Try.func13, Try.ntmps13
  go_wp2_with fail
  go_loopw [11] (fun vi wr => ∃ i : Nat, i ≤ n ∧ vi = .int .i64 i ∧ SetM wr (w.heap.size + 1) w.heap.size (.slice none 0 0) (puts (fun _ => false, 0) (xs.take i)).1 (puts (fun _ => false, 0) (xs.take i)).2 ∧ Ch S0 w wr) (fun vi _ => n - (intOf vi).toNat)
  case atStart => exact ⟨0, by omega, rfl, HS0.out, HC0.out⟩
  case round =>
    obtain ⟨i, hi, rfl, hS, hC⟩ := hrel
    have HS := Lib.hid hS
    have HC := Lib.hid hC
    by_cases hlt : i < n
    · have hlti : (i : Int) < (n : Nat) := by omega
      obtain ⟨x, hx⟩ : ∃ x, xs[i]? = some x := ⟨xs[i]'(by have := HX.out; omega), by simp [HX.out, hlt]⟩
      obtain ⟨q, o, hAe, c0⟩ := (HA.out.keep0 hC).at (fv_at hx)
      subst hAe
      have d0 := hS.blk.cell 0
      simp only [List.getElem?_toArray, List.getElem?_cons_zero] at d0
      have HT := Lib.hid (take_snoc' hx)
      obtain ⟨p, hp⟩ : ∃ p, puts (fun _ => false, 0) (xs.take i) = p := ⟨_, rfl⟩
      rw [hp] at HS
      have HP := Lib.hid hp
      clear hx hS hC hp
      go_wp2_with (at_mapUpdate; go_loud (refine wpList_kstore _ rfl (.tmp 18) (.tmp 19) (.tmp 20) 54 rfl 57 kEnc Try.underlying54 w.heap.size p.2 _ rfl HS.out.map x rfl (.agg #[]) rfl ?_; intro w3 hI3 hgr3 hsz3; obtain ⟨hs3, hc3⟩ := HS.out.put x hI3 hgr3; have HS3 := Lib.hid hs3; have HC3 := Lib.hid hc3; clear hI3 hgr3 hs3 hc3))
      go_roundw
      case rel => exact ⟨i + 1, by omega, by go_num, by rw [HT.out, puts_snoc, HP.out]; exact HS3.out, HC.out.trans' HC3.out (fun j hj hs => by have : j = w.heap.size := hs; omega)⟩
      case measure => simp [intOf]; omega
    · have hin : ¬ (i : Int) < (n : Nat) := by omega
      have hie : i = n := by omega
      have hS2 := HS.out
      rw [hie, ← HX.out, List.take_length] at hS2
      have HS2 := Lib.hid hS2
      have c1 := hS.blk.cell 1
      have f1 := hS.blk.free 1
      simp only [List.getElem?_toArray, List.getElem?_cons_zero, List.getElem?_cons_succ] at c1
      have hset : SetM (wr.setCell ⟨w.heap.size + 1, 1, none⟩ (.slice none 0 0)) (w.heap.size + 1) w.heap.size (.slice none 0 0) (puts (fun _ => false, 0) xs).1 (puts (fun _ => false, 0) xs).2 :=
        ⟨by simpa using HS2.out.blk.set 1 (.slice none 0 0), HS2.out.map.keep (Below.heap_setCell _ _ _ _ HS2.out.ne), HS2.out.ne⟩
      have HSet := Lib.hid hset
      have HCs : Hid (Ch S0 w (wr.setCell ⟨w.heap.size + 1, 1, none⟩ (.slice none 0 0))) := Lib.hid (hC.setCell ⟨w.heap.size + 1, 1, none⟩ (fun h => by have h : w.heap.size + 1 < w.heap.size := h; omega) _)
      clear hS hC hS2 hset
      by_cases h0 : 0 < n
      · have h0i : (0 : Int) < (n : Nat) := by omega
        go_wp2_with fail
        go_ret
        exact ⟨⟨_, _, rfl, HSet.out, by omega, by omega⟩, HCs.out⟩
      · have h0i : ¬ (0 : Int) < (n : Nat) := by omega
        go_wp2_with fail
        go_ret
        exact ⟨⟨_, _, rfl, HS2.out, by omega, by omega⟩, HC.out⟩

set_option maxRecDepth 100000 in
theorem all_any (s mb n0 : Nat) (fl : Value) (S : Int → Bool) (A : Option Addr) (n c : Nat) (xs : List Int) (w : World) (h : SetM w s mb fl S n0) (hx : xs.length = n) (hn : n ≤ 1000000) (hA : Rd w A (fv xs)) :
    Calls Try.prog 19 #[.pointer (some ⟨s, 0, none⟩), .slice A n c] w fun r w' => SomeB r ∧ Ch S0 w w' := by
  have HX := Lib.hid hx
  have HA := Lib.hid hA
  have HH := Lib.hid h
  clear hx hA h
  go_enter Try.func19, Try.ntmps19
  go_wp2_with fail
  go_loopw [11] (fun vi wr => ∃ i : Nat, i ≤ n ∧ vi = .int .i64 i ∧ Ch S0 w wr) (fun vi _ => n - (intOf vi).toNat)
  case atStart => exact ⟨0, by omega, rfl, Ch.refl _ _⟩
  case round =>
    obtain ⟨i, hi, rfl, hC⟩ := hrel
    have HC := Lib.hid hC
    by_cases hlt : i < n
    · have hlti : (i : Int) < (n : Nat) := by omega
      obtain ⟨x, hx⟩ : ∃ x, xs[i]? = some x := ⟨xs[i]'(by have := HX.out; omega), by simp [HX.out, hlt]⟩
      obtain ⟨q, o, hAe, c0⟩ := (HA.out.keep0 hC).at (fv_at hx)
      subst hAe
      have hS := HH.out.keep0 hC
      have d0 := hS.blk.cell 0
      simp only [List.getElem?_toArray, List.getElem?_cons_zero] at d0
      have HS := Lib.hid hS
      clear hx hS hC
      cases hb : S x with
      | true =>
        have hf : ((fun k => if S k = true then some (Value.agg #[]) else none) x) = some (.agg #[]) := by simp [hb]
        clear hb
        go_wp2_with (at_lookup; go_loud (refine wpList_klook_ok _ rfl (.tmp 19) (.tmp 20) 54 rfl 57 kEnc Try.underlying54 (zeroE _) mb n0 _ rfl HS.out.map x rfl ?_; simp only [hf, Option.getD_some, Option.isSome_some]))
        go_roundw
        case rel => exact ⟨i + 1, by omega, by go_num, HC.out.alloc _⟩
        case measure => simp [intOf]; omega
      | false =>
        have hf : ((fun k => if S k = true then some (Value.agg #[]) else none) x) = none := by simp [hb]
        clear hb
        go_wp2_with (at_lookup; go_loud (refine wpList_klook_ok _ rfl (.tmp 19) (.tmp 20) 54 rfl 57 kEnc Try.underlying54 (zeroE _) mb n0 _ rfl HS.out.map x rfl ?_; simp only [hf, Option.getD_none, Option.isSome_none]))
        go_ret
        exact ⟨⟨_, rfl⟩, HC.out.alloc _⟩
    · have hin : ¬ (i : Int) < (n : Nat) := by omega
      clear hC
      go_wp2_with fail
      go_ret
      exact ⟨⟨_, rfl⟩, HC.out⟩

set_option maxRecDepth 100000 in
theorem exists_any (s mb n0 : Nat) (fl : Value) (S : Int → Bool) (x : Int) (w : World) (h : SetM w s mb fl S n0) :
    Calls Try.prog 21 #[.pointer (some ⟨s, 0, none⟩), .iface 3 (.int .i64 x)] w fun r w' => r = .returned (.bool (S x)) ∧ Ch S0 w w' := by
  have HS := Lib.hid h
  have d0 := h.blk.cell 0
  simp only [List.getElem?_toArray, List.getElem?_cons_zero] at d0
  clear h
  cases hb : S x with
  | true =>
    have hf : ((fun k => if S k = true then some (Value.agg #[]) else none) x) = some (.agg #[]) := by simp [hb]
    clear hb
    go_enter Try.func21, Try.ntmps21
    go_wp2_with (at_lookup; go_loud (refine wpList_klook_ok _ rfl (.tmp 11) (.tmp 12) 54 rfl 57 kEnc Try.underlying54 (zeroE _) mb n0 _ rfl HS.out.map x rfl ?_; simp only [hf, Option.getD_some, Option.isSome_some]))
    go_ret
    exact ⟨rfl, (Ch.refl S0 w).alloc _⟩
  | false =>
    have hf : ((fun k => if S k = true then some (Value.agg #[]) else none) x) = none := by simp [hb]
    clear hb
    go_enter Try.func21, Try.ntmps21
    go_wp2_with (at_lookup; go_loud (refine wpList_klook_ok _ rfl (.tmp 11) (.tmp 12) 54 rfl 57 kEnc Try.underlying54 (zeroE _) mb n0 _ rfl HS.out.map x rfl ?_; simp only [hf, Option.getD_none, Option.isSome_none]))
    go_ret
    exact ⟨rfl, (Ch.refl S0 w).alloc _⟩
end Go.Proofs.Ytjifdcklmpibpaa
