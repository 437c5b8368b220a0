/- WALKS: one, bsAbs; ranges that are empty. -/
import Derived.Test.YtgnhmgnpmbmjcaaVd
import Derived.Test.YtgnhmgnpmbmjcaaWl
namespace Go.Proofs.Ytgnhmgnpmbmjcaa
open Go.RowKit
set_option linter.unusedVariables false
set_option linter.unusedSimpArgs false
set_option maxRecDepth 100000 in
theorem one_any (a n len cap : Nat) (p : Value) (w : World) (hl : 0 < len) (hl2 : len ≤ 1000) (hn : n ≤ 1000) (hp : w.cell? ⟨a, n % len, none⟩ = some p) (hq : ∃ q, p = .pointer q) :
    Calls Try.prog 67 #[.slice (some ⟨a, 0, none⟩) len cap, .int .i64 n] w fun e w' => e = .returned p ∧ Ch S0 w w' := by
  obtain ⟨q, rfl⟩ := hq
  have hm : n % len < len := Nat.mod_lt _ hl
  have e1 : ((n % len + len) % len) = n % len := by rw [Nat.add_mod_right, Nat.mod_mod]
  obtain ⟨i, hi⟩ : ∃ i, n % len = i := ⟨_, rfl⟩
  have m1 : (n : Int) % (len : Int) = (i : Int) := by rw [← hi]; rfl
  have m2 : ((i : Int) + (len : Int)) % (len : Int) = (i : Int) := by rw [hi] at e1; exact_mod_cast e1
  rw [hi] at hp hm
  have M2 := Lib.hid m2
  have hp' : w.cell? ⟨a, i % len, none⟩ = some (.pointer q) := by rw [Nat.mod_eq_of_lt hm]; exact hp
  have k1 : i % len < len := Nat.mod_lt _ hl
  have k2 : (i : Int) % (len : Int) < (len : Int) := by exact_mod_cast k1
  have k3 : (0 : Int) ≤ (i : Int) % (len : Int) := Int.emod_nonneg _ (by omega)
  clear hi e1 m2 hp
  go_enter Try.func67, Try.ntmps67
  go_wp2_with fail
  go_ret
  exact ⟨rfl, Ch.refl _ _⟩
set_option maxRecDepth 100000 in
theorem setRange_no (b s e : Nat) (w : World) (h : e ≤ s) :
    Calls Try.prog 51 #[.pointer (some ⟨b, 0, none⟩), .int .u64 s, .int .u64 e] w fun r w' => r = .returned (.pointer (some ⟨b, 0, none⟩)) ∧ w = w' := by
  go_enter Try.func51, Try.ntmps51
  go_wp2_with fail
  go_ret
  exact ⟨rfl, rfl⟩
set_option maxRecDepth 100000 in
theorem flipRange_no (b s e : Nat) (w : World) (h : e ≤ s) :
    Calls Try.prog 52 #[.pointer (some ⟨b, 0, none⟩), .int .u64 s, .int .u64 e] w fun r w' => r = .returned (.pointer (some ⟨b, 0, none⟩)) ∧ w = w' := by
  go_enter Try.func52, Try.ntmps52
  go_wp2_with fail
  go_ret
  exact ⟨rfl, rfl⟩
theorem abs_any (x : Int) (h : -9223372036854775808 ≤ x) (h2 : x ≤ 9223372036854775807) (w : World) :
    Calls Try.prog 39 #[.int .i64 x] w fun e w' => (∃ y : Nat, e = .returned (.int .i64 (y : Nat)) ∧ y ≤ 9223372036854775807) ∧ w = w' := by
  go_enter Try.func39, Try.ntmps39
  by_cases hx : x < 0
  · go_wp2_with fail
    go_ret
    exact ⟨⟨(-(x + 1)).toNat, int_eq (by omega), by omega⟩, rfl⟩
  · go_wp2_with fail
    go_ret
    exact ⟨⟨x.toNat, int_eq (by omega), by omega⟩, rfl⟩
end Go.Proofs.Ytgnhmgnpmbmjcaa
