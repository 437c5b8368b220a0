/- WALKS: how far two lengths are apart, as floats tell it. -/
import Derived.Test.YtbfcnimebdoagaaMD
import Derived.Laws.FloatArith
namespace Go.Proofs.Ytbfcnimebdoagaa
open Go.RowKit
set_option linter.unusedVariables false
set_option linter.unusedSimpArgs false

/-- The bits without the sign. -/
def nosign (b : Nat) : Nat := (bits BinOp.andNot IntKind.u64 (b : Int) 9223372036854775808).toNat
set_option maxRecDepth 100000 in
theorem abs_any (b : Nat) (w : World) : Calls Try.prog 45 #[.float .f64 b] w fun r w' => r = .returned (.float .f64 (nosign b)) ∧ w' = w := by
  have hfb : ∀ (b : Nat) (w : World), (callFunc 56 #[.float .f64 b]).run Try.prog w = .ok (.value (.int .u64 b)) w := fun _ _ => by kernel_rfl
  have hfr : ∀ (n : Int) (w : World), (callFunc 55 #[.int .u64 n]).run Try.prog w = .ok (.value (.float .f64 n.toNat)) w := fun _ _ => by kernel_rfl
  obtain ⟨z, hz⟩ : ∃ z, bits BinOp.andNot IntKind.u64 (b : Int) 9223372036854775808 = z := ⟨_, rfl⟩
  have HZ : Hid (nosign b = z.toNat) := Lib.hid (by unfold nosign; rw [hz])
  go_enter Try.func45, Try.ntmps45
  go_wp2_with fail
  go_ret
  exact ⟨by rw [HZ.out]; rfl, rfl⟩
def farOk (d : Int) : Bool := (FloatKind.f64.format.order (nosign (floatOfInt .f64 d)) 4607182418800017408 == some .gt) == (decide (1 < d) || decide (d < -1))
theorem far_all : ((List.range 101).all fun c => farOk ((c : Int) - 50)) = true := by kernel_rfl
theorem far_cmp (d : Int) (h1 : -50 ≤ d) (h2 : d ≤ 50) : (FloatKind.f64.format.order (nosign (floatOfInt .f64 d)) 4607182418800017408 == some .gt) = (decide (1 < d) || decide (d < -1)) := by
  have h := List.all_eq_true.1 far_all (d + 50).toNat (List.mem_range.2 (by omega))
  have e : (((d + 50).toNat : Nat) : Int) - 50 = d := by omega
  rw [e] at h
  exact eq_of_beq h
end Go.Proofs.Ytbfcnimebdoagaa
