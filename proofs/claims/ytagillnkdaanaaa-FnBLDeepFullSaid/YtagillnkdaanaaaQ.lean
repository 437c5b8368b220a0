/- THE PLAIN LAW of the filters' statements: what is added is found; what is found is found when more is there. -/
import Derived.Test.YtagillnkdaanaaaF
namespace Go.Proofs.Ytagillnkdaanaaa

theorem allTo_iff (g : Nat → Bool) (loc : Nat → Nat) : ∀ K, allTo g loc K = true ↔ ∀ i, i < K → g (loc i) = true
  | 0 => by simp [allTo]
  | K + 1 => by
    rw [allTo, Bool.and_eq_true, allTo_iff g loc K]
    refine ⟨fun ⟨h1, h2⟩ i hi => ?_, fun h => ⟨fun i hi => h i (by omega), h K (by omega)⟩⟩
    by_cases e : i = K
    · rw [e]; exact h2
    · exact h1 i (by omega)
theorem addTo_old {g : Nat → Bool} {loc : Nat → Nat} {p : Nat} (h : g p = true) : ∀ K, addTo g loc K p = true
  | 0 => h
  | K + 1 => by rw [addTo, Bit.put]; split; rfl; exact addTo_old h K
theorem addTo_new {g : Nat → Bool} {loc : Nat → Nat} {i : Nat} : ∀ K, i < K → addTo g loc K (loc i) = true
  | 0, h => by omega
  | K + 1, h => by
    rw [addTo, Bit.put]
    split
    · rfl
    · rename_i hne
      exact addTo_new K (by have : i ≠ K := fun e => hne (by rw [e]); omega)
/-- What is added is found. -/
theorem found_added (g : Nat → Bool) (loc : Nat → Nat) (K : Nat) : allTo (addTo g loc K) loc K = true := (allTo_iff _ _ _).2 fun i hi => addTo_new K hi
/-- What is found is found in more. -/
theorem found_more {g g' : Nat → Bool} {loc : Nat → Nat} {K : Nat} (hg : ∀ p, g p = true → g' p = true) (h : allTo g loc K = true) : allTo g' loc K = true :=
  (allTo_iff _ _ _).2 fun i hi => hg _ ((allTo_iff _ _ _).1 h i hi)
theorem found_none {loc : Nat → Nat} {K : Nat} (hK : 0 < K) : allTo (fun _ => false) loc K = false := allTo_le hK rfl
theorem found_full {loc : Nat → Nat} {K M : Nat} (hl : ∀ i, i < K → loc i < M) : allTo (fun k => decide (k < M)) loc K = true := (allTo_iff _ _ _).2 fun i hi => by simpa using hl i hi
theorem full_add {loc : Nat → Nat} {M : Nat} : ∀ K, (∀ i, i < K → loc i < M) → addTo (fun k => decide (k < M)) loc K = fun k => decide (k < M)
  | 0, _ => rfl
  | K + 1, hl => by
    rw [addTo, full_add K (fun i hi => hl i (by omega))]
    funext k
    unfold Bit.put
    split
    · rename_i e; subst e; simpa using hl K (by omega)
    · rfl
end Go.Proofs.Ytagillnkdaanaaa
