/- WALKS: the search in a table (find), get, exists, set. -/
import Derived.Test.YtjliofloheellaaH
import Derived.Test.YtjliofloheellaaP
import Derived.BigQuiet
import Derived.Deep.QuietTactic
namespace Go.Proofs.Ytjliofloheellaa
open Go.RowKit
set_option linter.unusedVariables false
set_option linter.unusedSimpArgs false

def ptrOf : Option Pk → Value
  | none => .pointer none
  | some p => .pointer (some ⟨p.b, 0, none⟩)

/-- A table in memory: its places in block tb, each packet in a block of its own. -/
structure Arr (w : World) (tb N : Nat) (T : Nat → Option Pk) : Prop where
  arr : ∃ C, Blk w tb C ∧ C.size = N ∧ ∀ i, i < N → C[i]? = some (ptrOf (T i))
  pks : ∀ i p, i < N → T i = some p → p.b ≠ tb ∧ Blk w p.b #[.int .u64 p.k, .int .u64 p.v]

theorem Arr.keep {S : Nat → Prop} {w w' : World} {tb N : Nat} {T : Nat → Option Pk} (h : Arr w tb N T) (hc : Ch S w w') (h1 : ¬ S tb) (h2 : ∀ i p, i < N → T i = some p → ¬ S p.b) : Arr w' tb N T := by
  obtain ⟨⟨C, a1, a2, a3⟩, hp⟩ := h
  exact ⟨⟨C, a1.keep hc h1, a2, a3⟩, fun i p hi hT => ⟨(hp i p hi hT).1, (hp i p hi hT).2.keep hc (h2 i p hi hT)⟩⟩
theorem Arr.cell {w : World} {tb N : Nat} {T : Nat → Option Pk} (h : Arr w tb N T) (i : Nat) (hi : i < N) : w.cell? ⟨tb, i, none⟩ = some (ptrOf (T i)) := by
  obtain ⟨⟨C, a1, a2, a3⟩, _⟩ := h
  rw [a1.cell, a3 i hi]
theorem Arr.lt {w : World} {tb N : Nat} {T : Nat → Option Pk} (h : Arr w tb N T) : tb < w.heap.size := by
  obtain ⟨⟨C, a1, a2, a3⟩, _⟩ := h
  exact a1.lt
theorem Arr.free {w : World} {tb N : Nat} {T : Nat → Option Pk} (h : Arr w tb N T) (i : Nat) : w.frozen? ⟨tb, i, none⟩ = false := by
  obtain ⟨⟨C, a1, a2, a3⟩, _⟩ := h
  exact a1.free i

theorem mod_step (h N d : Nat) (hN : 0 < N) : ((h + d) % N + 1) % N = (h + (d + 1)) % N := by
  rw [← Nat.add_assoc, Nat.add_mod (h + d) 1 N, Nat.add_mod ((h + d) % N) 1 N, Nat.mod_mod]

theorem back (h d N : Nat) (hh : h < N) (hd : d < N) : ((h + d) % N + (N - h)) % N = d := by
  by_cases hx : h + d < N
  · rw [Nat.mod_eq_of_lt hx, show h + d + (N - h) = d + N by omega, Nat.add_mod_right, Nat.mod_eq_of_lt hd]
  · have e : (h + d) % N = h + d - N := by rw [Nat.mod_eq_sub_mod (by omega), Nat.mod_eq_of_lt (by omega)]
    rw [e, show h + d - N + (N - h) = d by omega, Nat.mod_eq_of_lt hd]
theorem place_eq (h h0 d N : Nat) (hh : h % N = h0) : (h0 + d) % N = (h + d) % N := by rw [← hh, Nat.add_mod, Nat.mod_mod, ← Nat.add_mod]

set_option maxRecDepth 100000 in
set_option maxHeartbeats 1000000 in
theorem find_any (tb N e k D r0 : Nat) (T : Nat → Option Pk) (w : World) (hN : N = 2 ^ e) (he : e ≤ 20) (hA : Arr w tb N T) (hs : Stop Hsh N T k D) (hr0 : (Hsh k + D) % N = r0) :
    Calls Try.prog 18 #[.slice (some ⟨tb, 0, none⟩) N N, .int .u64 k] w fun r w' => r = .returned (.int .u64 (r0 : Nat)) ∧ w = w' := by
  have HR0 := Lib.hid hr0
  clear hr0
  have hN0 : 0 < N := by rw [hN]; exact Nat.two_pow_pos _
  have hN1 : N ≤ 1048576 := by rw [hN]; exact Nat.pow_le_pow_right (n := 2) (j := 20) (by omega) he
  have hand : ∀ x : Nat, x < 18446744073709551616 → bits BinOp.and IntKind.u64 (x : Int) ((N : Int) - 1) = ((x % N : Nat) : Int) := fun x hx => by
    rw [show (N : Int) - 1 = ((N - 1 : Nat) : Int) from by omega, u64_and_nat _ _ hx (by omega), hN, Nat.and_two_pow_sub_one_eq_mod]
  have hk := Hsh_lt k
  have a0 := hand (Hsh k) hk
  have b0 : (1 : Int) ≤ N := by omega
  have HA := Lib.hid hA
  have HS := Lib.hid hs
  have HAND := Lib.hid hand
  obtain ⟨h0, hh0⟩ : ∃ h0, Hsh k % N = h0 := ⟨_, rfl⟩
  rw [hh0] at a0
  have HH := Lib.hid hh0
  obtain ⟨hv, hhv⟩ : ∃ hv, Hsh k = hv := ⟨_, rfl⟩
  have hlt0 : h0 < N := by rw [← hh0]; exact Nat.mod_lt _ hN0
  have HC := Lib.hid (hash_any k)
  clear hA hs hand hk hh0 hN hhv hv
  go_enter Try.func18, Try.ntmps18
  go_wp2_with fail
  refine (HC.out _).mono ?_
  rintro r w1 ⟨rfl, rfl⟩
  go_wp2_with fail
  go_loopw [6] (fun v wr => ∃ d : Nat, d ≤ D ∧ v = .int .u64 ((h0 + d) % N : Nat) ∧ wr = w) (fun v _ => D - ((intOf v).toNat + (N - h0)) % N)
  case atStart => exact ⟨0, by omega, by rw [Nat.add_zero, Nat.mod_eq_of_lt hlt0], rfl⟩
  case round =>
    clear a0 HC
    obtain ⟨d, hd, rfl, hwr⟩ := hrel
    obtain rfl : w = wr := hwr.symm
    have hDN := HS.out.lt
    have hpl := place_eq (Hsh k) h0 d N HH.out
    have hb := back h0 d N hlt0 (by omega)
    have hst := mod_step h0 N d hN0
    have hb2 : d < D → ((h0 + (d + 1)) % N + (N - h0)) % N = d + 1 := fun h => back h0 (d + 1) N hlt0 (by omega)
    obtain ⟨i, hi⟩ : ∃ i, (h0 + d) % N = i := ⟨_, rfl⟩
    obtain ⟨i2, hi2⟩ : ∃ i2, (h0 + (d + 1)) % N = i2 := ⟨_, rfl⟩
    rw [hi2] at hst hb2
    have hiN : i < N := by rw [← hi]; exact Nat.mod_lt _ hN0
    rw [hi] at hpl hb hst ⊢
    have hini : (i : Int) < N := by omega
    have hin0 : (0 : Int) ≤ (i : Nat) := by omega
    have a1 : bits BinOp.and IntKind.u64 ((i : Int) + 1) ((N : Int) - 1) = ((i2 : Nat) : Int) := by rw [← hst]; exact HAND.out (i + 1) (by omega)
    have HI2 := Lib.hid hi2
    have HB := Lib.hid hb
    have HB2 := Lib.hid hb2
    have c0 := HA.out.cell i hiN
    clear hb hst hi hb2 hi2
    by_cases hlt : d < D
    · obtain ⟨p, hp, hne⟩ := HS.out.before d hlt
      rw [← hpl] at hp
      rw [hp] at c0
      have c1 := (HA.out.pks i p hiN hp).2.cell 0
      simp only [List.getElem?_toArray, List.getElem?_cons_zero, ptrOf] at c0 c1
      have hne2 : ((p.k : Int) == (k : Int)) = false := by rw [beq_eq_false_iff_ne]; omega
      have hne3 : ((p.k : Int) != (k : Int)) = true := by simp; omega
      clear hne hpl hp
      go_wp2_with fail
      go_roundw
      case rel => exact ⟨d + 1, by omega, by rw [HI2.out], by trivial⟩
      case measure => simp [intOf]; have q1 := HB.out; have q2 := HB2.out hlt; omega
    · obtain rfl : d = D := by omega
      have hfin : (Hsh k + d) % N = i := hpl.symm
      obtain rfl : i = r0 := hfin.symm.trans HR0.out
      rcases HS.out.here with h | ⟨p, h, hk⟩
      · rw [hfin] at h
        rw [h] at c0
        simp only [ptrOf] at c0
        clear hpl hfin h a1
        go_wp2_with fail
        go_ret
        exact ⟨rfl, rfl⟩
      · rw [hfin] at h
        rw [h] at c0
        have c1 := (HA.out.pks i p hiN h).2.cell 0
        simp only [List.getElem?_toArray, List.getElem?_cons_zero, ptrOf] at c0 c1
        have hne2 : ((p.k : Int) == (k : Int)) = true := by rw [beq_iff_eq]; omega
        have hne3 : ((p.k : Int) != (k : Int)) = false := by simp; omega
        clear hpl hfin h hk a1
        go_wp2_with fail
        go_ret
        exact ⟨rfl, rfl⟩

set_option maxRecDepth 100000 in
set_option maxHeartbeats 1000000 in
/-- get: the value of the map. -/
theorem get_any (tb N e k : Nat) (T : Nat → Option Pk) (m : Nat → Option Nat) (w : World) (hN : N = 2 ^ e) (he : e ≤ 20) (hA : Arr w tb N T) (ht : Tab Hsh N T) (hm : Rep N T m) (hr : ∃ j, j < N ∧ T j = none) :
    Calls Try.prog 15 #[.slice (some ⟨tb, 0, none⟩) N N, .int .u64 k] w fun r w' => r = .returned (.tuple #[.int .u64 ((m k).getD 0 : Nat), .bool (m k).isSome]) ∧ w = w' := by
  obtain ⟨D, hs⟩ := stop_ex (H := Hsh) k hr
  have hpl := hs.place
  have hf := hs.here
  have hsome := fun p h => Rep.some (p := p) hs hm h
  have hnone := fun h => Rep.none hs ht hm h
  obtain ⟨i, hi⟩ : ∃ i, (Hsh k + D) % N = i := ⟨_, rfl⟩
  have HC := Lib.hid (find_any tb N e k D i T w hN he hA hs hi)
  rw [hi] at hpl hf hsome hnone
  have c0 := hA.cell i hpl
  have hii : (i : Int) < N := by omega
  have hi0 : (0 : Int) ≤ (i : Nat) := by omega
  cases hT : T i with
  | none =>
    rw [hT] at c0
    have e0 := hnone hT
    rw [e0]
    simp only [ptrOf] at c0
    clear hA hs hm ht hr hf hsome hnone hi e0 hT hN
    go_enter Try.func15, Try.ntmps15
    go_wp2_with fail
    refine HC.out.mono ?_
    rintro r w1 ⟨rfl, rfl⟩
    go_wp2_with fail
    go_ret2
    exact ⟨rfl, rfl⟩
  | some p =>
    rw [hT] at c0
    have c1 := (hA.pks i p hpl hT).2.cell 1
    have e0 := hsome p hT
    rw [e0]
    simp only [List.getElem?_toArray, List.getElem?_cons_zero, List.getElem?_cons_succ, ptrOf] at c0 c1
    clear hA hs hm ht hr hf hsome hnone hi e0 hT hN
    go_enter Try.func15, Try.ntmps15
    go_wp2_with fail
    refine HC.out.mono ?_
    rintro r w1 ⟨rfl, rfl⟩
    go_wp2_with fail
    go_ret2
    exact ⟨rfl, rfl⟩

set_option maxRecDepth 100000 in
set_option maxHeartbeats 1000000 in
theorem exists_any (tb N e k : Nat) (T : Nat → Option Pk) (m : Nat → Option Nat) (w : World) (hN : N = 2 ^ e) (he : e ≤ 20) (hA : Arr w tb N T) (ht : Tab Hsh N T) (hm : Rep N T m) (hr : ∃ j, j < N ∧ T j = none) :
    Calls Try.prog 16 #[.slice (some ⟨tb, 0, none⟩) N N, .int .u64 k] w fun r w' => r = .returned (.bool (m k).isSome) ∧ w = w' := by
  obtain ⟨D, hs⟩ := stop_ex (H := Hsh) k hr
  have hpl := hs.place
  have hf := hs.here
  have hsome := fun p h => Rep.some (p := p) hs hm h
  have hnone := fun h => Rep.none hs ht hm h
  obtain ⟨i, hi⟩ : ∃ i, (Hsh k + D) % N = i := ⟨_, rfl⟩
  have HC := Lib.hid (find_any tb N e k D i T w hN he hA hs hi)
  rw [hi] at hpl hf hsome hnone
  have c0 := hA.cell i hpl
  have hii : (i : Int) < N := by omega
  have hi0 : (0 : Int) ≤ (i : Nat) := by omega
  cases hT : T i with
  | none =>
    rw [hT] at c0
    have e0 := hnone hT
    rw [e0]
    simp only [ptrOf] at c0
    clear hA hs hm ht hr hf hsome hnone hi e0 hT hN
    go_enter Try.func16, Try.ntmps16
    go_wp2_with fail
    refine HC.out.mono ?_
    rintro r w1 ⟨rfl, rfl⟩
    go_wp2_with fail
    go_ret
    exact ⟨rfl, rfl⟩
  | some p =>
    rw [hT] at c0
    have e0 := hsome p hT
    rw [e0]
    simp only [ptrOf] at c0
    clear hA hs hm ht hr hf hsome hnone hi e0 hT hN
    go_enter Try.func16, Try.ntmps16
    go_wp2_with fail
    refine HC.out.mono ?_
    rintro r w1 ⟨rfl, rfl⟩
    go_wp2_with fail
    go_ret
    exact ⟨rfl, rfl⟩

set_option maxRecDepth 100000 in
set_option maxHeartbeats 1000000 in
/-- set of a key that is not there: into the first free place. -/
theorem set_any (tb N e : Nat) (p : Pk) (T : Nat → Option Pk) (m : Nat → Option Nat) (w : World) (hN : N = 2 ^ e) (he : e ≤ 20) (hA : Arr w tb N T) (ht : Tab Hsh N T) (hm : Rep N T m) (hr : ∃ j, j < N ∧ T j = none)
    (hp : p.b ≠ tb ∧ Blk w p.b #[.int .u64 p.k, .int .u64 p.v]) (hk : m p.k = none) :
    Calls Try.prog 14 #[.slice (some ⟨tb, 0, none⟩) N N, .pointer (some ⟨p.b, 0, none⟩)] w fun r w' => r = .returned (.tuple #[]) ∧ (∃ T', Arr w' tb N T' ∧ Tab Hsh N T' ∧ Rep N T' (upd m p.k p.v) ∧ occ T' N = occ T N + 1 ∧ ∀ j q, j < N → T' j = some q → T j = some q ∨ q = p) ∧ Ch (S1 tb) w w' := by
  obtain ⟨D, hs⟩ := stop_ex (H := Hsh) p.k hr
  have hpl := hs.place
  obtain ⟨hT, hrep⟩ := Rep.put hs ht hm hk (p := p) rfl
  have htab := hs.insert ht hT (p := p) rfl
  obtain ⟨i, hi⟩ : ∃ i, (Hsh p.k + D) % N = i := ⟨_, rfl⟩
  have HC := Lib.hid (find_any tb N e p.k D i T w hN he hA hs hi)
  rw [hi] at hpl hT hrep htab
  have c0 := hA.cell i hpl
  have z0 := hA.free i
  have hii : (i : Int) < N := by omega
  have hi0 : (0 : Int) ≤ (i : Nat) := by omega
  have c1 := hp.2.cell 0
  rw [hT] at c0
  have hfin : Arr (w.setCell ⟨tb, i, none⟩ (.pointer (some ⟨p.b, 0, none⟩))) tb N (put T i p) := by
    obtain ⟨⟨C, a1, a2, a3⟩, hq⟩ := hA
    refine ⟨⟨_, a1.set i _, by simpa using a2, fun j hj => ?_⟩, fun j q hj hTj => ?_⟩
    · by_cases e : i = j
      · subst e; rw [Array.getElem?_setIfInBounds_self_of_lt (by omega), put_same]; rfl
      · rw [Array.getElem?_setIfInBounds_ne e, put_other (Ne.symm e)]; exact a3 j hj
    · by_cases e : j = i
      · subst e; rw [put_same] at hTj; cases hTj
        exact ⟨hp.1, hp.2.setOther (Ne.symm hp.1) _⟩
      · rw [put_other e] at hTj
        exact ⟨(hq j q hj hTj).1, (hq j q hj hTj).2.setOther (Ne.symm (hq j q hj hTj).1) _⟩
  have hocc := occ_put (p := p) hT N hpl
  have HF := Lib.hid (show ∃ T', Arr (w.setCell ⟨tb, i, none⟩ (.pointer (some ⟨p.b, 0, none⟩))) tb N T' ∧ Tab Hsh N T' ∧ Rep N T' (upd m p.k p.v) ∧ occ T' N = occ T N + 1 ∧ ∀ j q, j < N → T' j = some q → T j = some q ∨ q = p from ⟨_, hfin, htab, hrep, hocc, fun j q _ h => put_cases h⟩)
  simp only [List.getElem?_toArray, List.getElem?_cons_zero, ptrOf] at c0 c1
  clear hA hs hm ht hr hi hT hN hfin htab hrep hocc hp hk
  go_enter Try.func14, Try.ntmps14
  go_wp2_with fail
  refine HC.out.mono ?_
  rintro r w1 ⟨rfl, rfl⟩
  go_wp2_with fail
  refine bodyPost_ret (v := .tuple #[]) (by simp [results, Try.results14, go_sem]) rfl ?_
  exact ⟨rfl, HF.out, (Ch.refl _ _).setCell _ (fun _ => show S1 tb tb from rfl) _⟩
end Go.Proofs.Ytjliofloheellaa
