/- PLAIN: the load of a table, as the program's floats compare it. -/
import Derived.Laws.FloatArith
import Derived.KernelRfl
namespace Go.Proofs.Ytjliofloheellaa
set_option linter.unusedVariables false

def chk (o : Option Nat) (p : Bool) : Bool := match o with
  | some r => (FloatKind.f64.format.order r 4604930618986332160 == some .gt) == p
  | none => false
theorem chk_some {o : Option Nat} {p : Bool} (h : chk o p = true) : ∃ r, o = some r ∧ (FloatKind.f64.format.order r 4604930618986332160 == some .gt) = p := by
  cases o with
  | none => cases h
  | some r => exact ⟨r, rfl, eq_of_beq h⟩
def loadOk (c e : Nat) : Bool := chk (floatBits .quo .f64 (floatOfInt .f64 ((c : Int) + 1)) (floatOfInt .f64 ((2 ^ e : Nat) : Int))) (decide (3 * 2 ^ e < 4 * (c + 1)))
theorem load_0 : ((List.range 104).all fun c => loadOk c 0) = true := by kernel_rfl
theorem load_1 : ((List.range 104).all fun c => loadOk c 1) = true := by kernel_rfl
theorem load_2 : ((List.range 104).all fun c => loadOk c 2) = true := by kernel_rfl
theorem load_3 : ((List.range 104).all fun c => loadOk c 3) = true := by kernel_rfl
theorem load_4 : ((List.range 104).all fun c => loadOk c 4) = true := by kernel_rfl
theorem load_5 : ((List.range 104).all fun c => loadOk c 5) = true := by kernel_rfl
theorem load_6 : ((List.range 104).all fun c => loadOk c 6) = true := by kernel_rfl
theorem load_7 : ((List.range 104).all fun c => loadOk c 7) = true := by kernel_rfl
theorem load_8 : ((List.range 104).all fun c => loadOk c 8) = true := by kernel_rfl
theorem load_9 : ((List.range 104).all fun c => loadOk c 9) = true := by kernel_rfl
theorem load_10 : ((List.range 104).all fun c => loadOk c 10) = true := by kernel_rfl
theorem load_all (e : Nat) (he : e < 11) : ((List.range 104).all fun c => loadOk c e) = true := by
  match e, he with
  | 0, _ => exact load_0
  | 1, _ => exact load_1
  | 2, _ => exact load_2
  | 3, _ => exact load_3
  | 4, _ => exact load_4
  | 5, _ => exact load_5
  | 6, _ => exact load_6
  | 7, _ => exact load_7
  | 8, _ => exact load_8
  | 9, _ => exact load_9
  | 10, _ => exact load_10
  | n + 11, h => omega
theorem load_cmp (c e : Nat) (hc : c < 104) (he : e < 11) : ∃ r, floatBits .quo .f64 (floatOfInt .f64 ((c : Int) + 1)) (floatOfInt .f64 ((2 ^ e : Nat) : Int)) = some r ∧ (FloatKind.f64.format.order r 4604930618986332160 == some .gt) = decide (3 * 2 ^ e < 4 * (c + 1)) := by
  have h : loadOk c e = true := List.all_eq_true.1 (load_all e he) c (List.mem_range.2 hc)
  unfold loadOk at h
  exact chk_some h
end Go.Proofs.Ytjliofloheellaa
