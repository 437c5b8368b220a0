/- PLAIN: the next power of two. -/
namespace Go.Proofs.Ytjliofloheellaa

def ru (k : Nat) : Nat :=
  let x0 := k - 1
  let x1 := x0 ||| x0 / 2
  let x2 := x1 ||| x1 / 4
  let x3 := x2 ||| x2 / 16
  let x4 := x3 ||| x3 / 256
  let x5 := x4 ||| x4 / 65536
  let x6 := x5 ||| x5 / 4294967296
  x6 + 1
theorem ru_small : ∀ h, h < 601 → 0 < h → ∃ e, e < 11 ∧ ru h = 2 ^ e := by decide +kernel
theorem ru_next : ∀ e, e < 11 → ru (2 ^ e + 1) = 2 ^ (e + 1) := by decide +kernel
end Go.Proofs.Ytjliofloheellaa
