/- SETS IN MEMORY; anys, New, Add, Remove, Len, All, Exists. -/
import Derived.Test.YtjifdcklmpibpaaI
import Derived.Test.YtjifdcklmpibpaaKM
namespace Go.Proofs.Ytjifdcklmpibpaa
open Go.RowKit
set_option linter.unusedVariables false
set_option linter.unusedSimpArgs false

/-- A number in an interface. -/
abbrev kI (n : Int) : Value := .iface 3 (.int .i64 n)
theorem kEnc : KEnc Try.prog 20 kI := (KIn.int ⟨_, Try.underlying20⟩ Try.underlying3 (by kernel_rfl)).toKEnc
theorem Try.infoE : (Try.prog.info? 57).map (·.zero) = some (some (.agg #[])) := by kernel_rfl
theorem zeroE (w : World) : (zeroValue 57).run Try.prog w = .ok (.agg #[]) w := by
  obtain ⟨i, h1, h2⟩ := Option.map_eq_some_iff.1 Try.infoE
  simp [zeroValue, krun_ty h1, h2, Result.andThen]
theorem elI : EL Try.prog 44 20 1 16 := EL.of (z := .nilIface) Try.underlying44 (by kernel_rfl) rfl (by decide)

/-- Numbers in interfaces, as cells. -/
def fv (xs : List Int) : List Value := xs.map kI
theorem fv_at {xs : List Int} {j : Nat} {x : Int} (h : xs[j]? = some x) : (fv xs)[j]? = some (kI x) := by simp [fv, h]
theorem fv_snoc (xs : List Int) (x : Int) : fv (xs ++ [x]) = fv xs ++ [kI x] := by simp [fv]
@[simp] theorem fv_length (xs : List Int) : (fv xs).length = xs.length := by simp [fv]

/-- Block s: a set; block mb: its map; S says what is in it. -/
structure SetM (w : World) (s mb : Nat) (fl : Value) (S : Int → Bool) (n : Nat) : Prop where
  blk : Blk w s #[.map (some mb), fl]
  map : KMap kI w mb (fun k => if S k then some (.agg #[]) else none) n
  ne : mb ≠ s

theorem SetM.keep {T : Nat → Prop} {w w' : World} {s mb n : Nat} {fl : Value} {S : Int → Bool} (h : SetM w s mb fl S n) (hc : Ch T w w') (h1 : ¬ T s) (h2 : ¬ T mb) : SetM w' s mb fl S n :=
  ⟨h.blk.keep hc h1, h.map.keep (hc.block _ h.map.lt h2), h.ne⟩
theorem SetM.keep0 {w w' : World} {s mb n : Nat} {fl : Value} {S : Int → Bool} (h : SetM w s mb fl S n) (hc : Ch S0 w w') : SetM w' s mb fl S n := h.keep hc (fun h => h) (fun h => h)

def putS (S : Int → Bool) (k : Int) : Int → Bool := fun x => S x || x == k
def popS (S : Int → Bool) (k : Int) : Int → Bool := fun x => S x && x != k
def putN (S : Int → Bool) (n : Nat) (k : Int) : Nat := if S k then n else n + 1
def popN (S : Int → Bool) (n : Nat) (k : Int) : Nat := if S k then n - 1 else n
/-- Behind some values. -/
def puts (p : (Int → Bool) × Nat) (ks : List Int) : (Int → Bool) × Nat := ks.foldl (fun p k => (putS p.1 k, putN p.1 p.2 k)) p
def pops (p : (Int → Bool) × Nat) (ks : List Int) : (Int → Bool) × Nat := ks.foldl (fun p k => (popS p.1 k, popN p.1 p.2 k)) p
theorem puts_snoc (p : (Int → Bool) × Nat) (ks : List Int) (k : Int) : puts p (ks ++ [k]) = (putS (puts p ks).1 k, putN (puts p ks).1 (puts p ks).2 k) := by simp [puts]
theorem pops_snoc (p : (Int → Bool) × Nat) (ks : List Int) (k : Int) : pops p (ks ++ [k]) = (popS (pops p ks).1 k, popN (pops p ks).1 (pops p ks).2 k) := by simp [pops]
theorem puts_in (ks : List Int) : ∀ (p : (Int → Bool) × Nat) (x : Int), (puts p ks).1 x = (p.1 x || decide (x ∈ ks)) := by
  induction ks with
  | nil => intro p x; simp [puts]
  | cons k ks ih =>
    intro p x
    have := ih (putS p.1 k, putN p.1 p.2 k) x
    simp only [puts, List.foldl_cons] at this ⊢
    rw [this]
    have e : decide (x ∈ k :: ks) = (x == k || decide (x ∈ ks)) := by by_cases h : x = k <;> by_cases h2 : x ∈ ks <;> simp [h, h2]
    rw [e]
    simp only [putS, Bool.or_assoc]
theorem pops_in (ks : List Int) : ∀ (p : (Int → Bool) × Nat) (x : Int), (pops p ks).1 x = (p.1 x && !decide (x ∈ ks)) := by
  induction ks with
  | nil => intro p x; simp [pops]
  | cons k ks ih =>
    intro p x
    have := ih (popS p.1 k, popN p.1 p.2 k) x
    simp only [pops, List.foldl_cons] at this ⊢
    rw [this]
    have e : decide (x ∈ k :: ks) = (x == k || decide (x ∈ ks)) := by by_cases h : x = k <;> by_cases h2 : x ∈ ks <;> simp [h, h2]
    rw [e]
    have e2 : popS p.1 k x = (p.1 x && !(x == k)) := rfl
    rw [e2]
    generalize p.1 x = a
    generalize (x == k) = b
    generalize decide (x ∈ ks) = c
    cases a <;> cases b <;> cases c <;> rfl
theorem puts_n (ks : List Int) : ∀ (p : (Int → Bool) × Nat), (puts p ks).2 ≤ p.2 + ks.length := by
  induction ks with
  | nil => intro p; simp [puts]
  | cons k ks ih =>
    intro p
    have h := ih (putS p.1 k, putN p.1 p.2 k)
    have h2 : putN p.1 p.2 k ≤ p.2 + 1 := by unfold putN; split <;> omega
    simp only [puts, List.foldl_cons, List.length_cons] at h ⊢
    omega

set_option maxRecDepth 100000 in
theorem anys_any (A : Option Addr) (n c : Nat) (xs : List Int) (w : World) (hx : xs.length = n) (hn : n ≤ 1000000) (hA : Rd w A (iv xs)) :
    Calls Try.prog 14 #[.slice A n c] w fun r w' => ∃ v, r = .returned v ∧ w'.ownsRow w.heap.size 20 1 v n (fv xs) ∧ Ch S0 w w' := by
  have HX := Lib.hid hx
  have HA := Lib.hid hA
  clear hx hA
  go_enter Try.func14, Try.ntmps14
  go_wp2_with fail
  go_loopw [3, 8] (fun vo vi wr => ∃ i : Nat, i ≤ n ∧ vi = .int .i64 i ∧ wr.ownsRow w.heap.size 20 1 vo i (fv (xs.take i)) ∧ Ch S0 w wr) (fun _ vi _ => n - (intOf vi).toNat)
  case atStart => exact ⟨0, by omega, rfl, World.ownsRow_nil _ _ _ _, Ch.refl _ _⟩
  case round =>
    obtain ⟨i, hi, rfl, hO, hC⟩ := hrel
    have HO := Lib.hid hO
    have HC := Lib.hid hC
    clear hO hC
    by_cases hlt : i < n
    · have hlti : (i : Int) < (n : Nat) := by omega
      obtain ⟨x, hx⟩ : ∃ x, xs[i]? = some x := ⟨xs[i]'(by have := HX.out; omega), by simp [HX.out, hlt]⟩
      obtain ⟨q, o, hAe, c0⟩ := (HA.out.keep0 HC.out).at (iv_at hx)
      subst hAe
      have hts : fv (xs.take (i + 1)) = fv (xs.take i) ++ [kI x] := by rw [List.take_add_one, hx]; simp [fv]
      have HT := Lib.hid hts
      have hsz := HC.out.size
      clear hts hx
      go_wp2_with (at_builtin; go_loud (refine app_own elI rfl (.tmp 12) (.tmp 15) rfl w.heap.size i u3 (fv (xs.take i)) rfl HO.out [kI x] rfl (by simp [Value.oneCell']) _ rfl rfl (by unfold maxLen; omega) (by omega) hsz ?_); intro v' w4 hown4 hc4 hb4; have HOw := Lib.hid hown4; have HC4 := Lib.hid hc4; clear hown4 hc4 hb4)
      go_roundw
      case rel => exact ⟨i + 1, by omega, by go_num, by rw [HT.out]; exact HOw.out, HC.out.trans' HC4.out (fun j hj hs => absurd (own_lt HO.out j hs).1 (by omega))⟩
      case measure => simp [intOf]; omega
    · have hin : ¬ (i : Int) < (n : Nat) := by omega
      have hie : i = n := by omega
      go_wp2_with fail
      go_ret
      refine ⟨_, rfl, ?_, HC.out⟩
      have := HO.out
      rwa [hie, ← HX.out, List.take_length, HX.out] at this

theorem take_snoc' {xs : List Int} {i : Nat} {x : Int} (h : xs[i]? = some x) : xs.take (i + 1) = xs.take i ++ [x] := by rw [List.take_add_one, h]; rfl

theorem SetM.put {w w' : World} {s mb n : Nat} {fl : Value} {S : Int → Bool} (h : SetM w s mb fl S n) (k : Int) (hI : KMap kI w' mb (fun y => if y = k then some (.agg #[]) else if S y = true then some (.agg #[]) else none) (if ((if S k = true then some (Value.agg #[]) else none)).isSome = true then n else n + 1)) (hg : w.grownBy w' (some mb)) :
    SetM w' s mb fl (putS S k) (putN S n k) ∧ Ch (S1 mb) w w' := by
  have hc : Ch (S1 mb) w w' := Ch.ofGrown hg fun j hj => (Option.some.inj hj).symm
  refine ⟨⟨h.blk.keep hc (fun e => h.ne e.symm), ?_, h.ne⟩, hc⟩
  have e1 : (fun x => if putS S k x = true then some (Value.agg #[]) else none) = (fun y => if y = k then some (.agg #[]) else if S y = true then some (.agg #[]) else none) := by
    funext y
    by_cases hy : y = k <;> simp [putS, hy]
  have e2 : putN S n k = (if ((if S k = true then some (Value.agg #[]) else none)).isSome = true then n else n + 1) := by
    cases hs : S k <;> simp [putN, hs]
  rw [e1, e2]
  exact hI
theorem SetM.pop {w w' : World} {s mb n : Nat} {fl : Value} {S : Int → Bool} (h : SetM w s mb fl S n) (k : Int) (hI : KMap kI w' mb (fun y => if y = k then none else if S y = true then some (.agg #[]) else none) (if ((if S k = true then some (Value.agg #[]) else none)).isSome = true then n - 1 else n)) (hg : w.grownBy w' (some mb)) :
    SetM w' s mb fl (popS S k) (popN S n k) ∧ Ch (S1 mb) w w' := by
  have hc : Ch (S1 mb) w w' := Ch.ofGrown hg fun j hj => (Option.some.inj hj).symm
  refine ⟨⟨h.blk.keep hc (fun e => h.ne e.symm), ?_, h.ne⟩, hc⟩
  have e1 : (fun x => if popS S k x = true then some (Value.agg #[]) else none) = (fun y => if y = k then none else if S y = true then some (.agg #[]) else none) := by
    funext y
    by_cases hy : y = k <;> simp [popS, hy]
  have e2 : popN S n k = (if ((if S k = true then some (Value.agg #[]) else none)).isSome = true then n - 1 else n) := by
    cases hs : S k <;> simp [popN, hs]
  rw [e1, e2]
  exact hI

set_option maxRecDepth 100000 in
theorem add_any (s mb n0 : Nat) (fl : Value) (S : Int → Bool) (A : Option Addr) (n c : Nat) (xs : List Int) (w : World) (h : SetM w s mb fl S n0) (hx : xs.length = n) (hn : n ≤ 1000000) (hA : Rd w A (fv xs)) (hAs : ∀ b o, A = some ⟨b, o, none⟩ → b ≠ s ∧ b ≠ mb) :
    Calls Try.prog 15 #[.pointer (some ⟨s, 0, none⟩), .slice A n c] w fun r w' => r = .returned (.tuple #[]) ∧ SetM w' s mb (.slice none 0 0) (puts (S, n0) xs).1 (puts (S, n0) xs).2 ∧ Ch (S2 s mb) w w' := by
  have HX := Lib.hid hx
  have HA := Lib.hid hA
  have HAs := Lib.hid hAs
  have HH := Lib.hid h
  have c1 := h.blk.cell 1
  have f1 := h.blk.free 1
  simp only [List.getElem?_toArray, List.getElem?_cons_zero, List.getElem?_cons_succ] at c1
  clear hx hA h hAs
  go_enter Try.func15, Try.ntmps15
  go_wp2_with fail
  have hc0 : Ch (S2 s mb) w (w.setCell ⟨s, 1, none⟩ (.slice none 0 0)) := (Ch.refl (S2 s mb) w).setCell ⟨s, 1, none⟩ (fun _ => Or.inl rfl) _
  have hS0 : SetM (w.setCell ⟨s, 1, none⟩ (.slice none 0 0)) s mb (.slice none 0 0) S n0 :=
    ⟨by simpa using HH.out.blk.set 1 (.slice none 0 0), HH.out.map.keep (Below.heap_setCell _ _ _ _ HH.out.ne), HH.out.ne⟩
  have HC0 := Lib.hid hc0
  have HS0 := Lib.hid hS0
  clear hc0 hS0
  go_loopw [11] (fun vi wr => ∃ i : Nat, i ≤ n ∧ vi = .int .i64 i ∧ SetM wr s mb (.slice none 0 0) (puts (S, n0) (xs.take i)).1 (puts (S, n0) (xs.take i)).2 ∧ Ch (S2 s mb) w wr) (fun vi _ => n - (intOf vi).toNat)
  case atStart => exact ⟨0, by omega, rfl, HS0.out, HC0.out⟩
  case round =>
    obtain ⟨i, hi, rfl, hS, hC⟩ := hrel
    have HS := Lib.hid hS
    have HC := Lib.hid hC
    by_cases hlt : i < n
    · have hlti : (i : Int) < (n : Nat) := by omega
      obtain ⟨x, hx⟩ : ∃ x, xs[i]? = some x := ⟨xs[i]'(by have := HX.out; omega), by simp [HX.out, hlt]⟩
      obtain ⟨q, o, hAe, c0⟩ := (HA.out.keep hC (fun b o hb e => by have := HAs.out b o hb; rcases e with e | e <;> omega)).at (fv_at hx)
      subst hAe
      have d0 := hS.blk.cell 0
      simp only [List.getElem?_toArray, List.getElem?_cons_zero] at d0
      have HT := Lib.hid (take_snoc' hx)
      obtain ⟨p, hp⟩ : ∃ p, puts (S, n0) (xs.take i) = p := ⟨_, rfl⟩
      rw [hp] at HS
      have HP := Lib.hid hp
      clear hx hS hC hp
      go_wp2_with (at_mapUpdate; go_loud (refine wpList_kstore _ rfl (.tmp 18) (.tmp 19) (.tmp 20) 54 rfl 57 kEnc Try.underlying54 mb p.2 _ rfl HS.out.map x rfl (.agg #[]) rfl ?_; intro w3 hI3 hgr3 hsz3; obtain ⟨hs3, hc3⟩ := HS.out.put x hI3 hgr3; have HS3 := Lib.hid hs3; have HC3 := Lib.hid hc3; clear hI3 hgr3 hs3 hc3))
      go_roundw
      case rel => exact ⟨i + 1, by omega, by go_num, by rw [HT.out, puts_snoc, HP.out]; exact HS3.out, HC.out.trans (HC3.out.mono fun _ _ h => Or.inr h)⟩
      case measure => simp [intOf]; omega
    · have hin : ¬ (i : Int) < (n : Nat) := by omega
      have hie : i = n := by omega
      clear hS hC
      go_wp2_with fail
      refine bodyPost_end (results_none rfl _ _ _) rfl ?_
      refine ⟨rfl, ?_, HC.out⟩
      have := HS.out
      rwa [hie, ← HX.out, List.take_length] at this

set_option maxRecDepth 100000 in
theorem remove_any (s mb n0 : Nat) (fl : Value) (S : Int → Bool) (A : Option Addr) (n c : Nat) (xs : List Int) (w : World) (h : SetM w s mb fl S n0) (hx : xs.length = n) (hn : n ≤ 1000000) (hA : Rd w A (fv xs)) (hAs : ∀ b o, A = some ⟨b, o, none⟩ → b ≠ s ∧ b ≠ mb) :
    Calls Try.prog 16 #[.pointer (some ⟨s, 0, none⟩), .slice A n c] w fun r w' => r = .returned (.tuple #[]) ∧ SetM w' s mb (.slice none 0 0) (pops (S, n0) xs).1 (pops (S, n0) xs).2 ∧ Ch (S2 s mb) w w' := by
  have HX := Lib.hid hx
  have HA := Lib.hid hA
  have HAs := Lib.hid hAs
  have HH := Lib.hid h
  have c1 := h.blk.cell 1
  have f1 := h.blk.free 1
  simp only [List.getElem?_toArray, List.getElem?_cons_zero, List.getElem?_cons_succ] at c1
  clear hx hA h hAs
  go_enter Try.func16, Try.ntmps16
  go_wp2_with fail
  have hc0 : Ch (S2 s mb) w (w.setCell ⟨s, 1, none⟩ (.slice none 0 0)) := (Ch.refl (S2 s mb) w).setCell ⟨s, 1, none⟩ (fun _ => Or.inl rfl) _
  have hS0 : SetM (w.setCell ⟨s, 1, none⟩ (.slice none 0 0)) s mb (.slice none 0 0) S n0 :=
    ⟨by simpa using HH.out.blk.set 1 (.slice none 0 0), HH.out.map.keep (Below.heap_setCell _ _ _ _ HH.out.ne), HH.out.ne⟩
  have HC0 := Lib.hid hc0
  have HS0 := Lib.hid hS0
  clear hc0 hS0
  go_loopw [11] (fun vi wr => ∃ i : Nat, i ≤ n ∧ vi = .int .i64 i ∧ SetM wr s mb (.slice none 0 0) (pops (S, n0) (xs.take i)).1 (pops (S, n0) (xs.take i)).2 ∧ Ch (S2 s mb) w wr) (fun vi _ => n - (intOf vi).toNat)
  case atStart => exact ⟨0, by omega, rfl, HS0.out, HC0.out⟩
  case round =>
    obtain ⟨i, hi, rfl, hS, hC⟩ := hrel
    have HS := Lib.hid hS
    have HC := Lib.hid hC
    by_cases hlt : i < n
    · have hlti : (i : Int) < (n : Nat) := by omega
      obtain ⟨x, hx⟩ : ∃ x, xs[i]? = some x := ⟨xs[i]'(by have := HX.out; omega), by simp [HX.out, hlt]⟩
      obtain ⟨q, o, hAe, c0⟩ := (HA.out.keep hC (fun b o hb e => by have := HAs.out b o hb; rcases e with e | e <;> omega)).at (fv_at hx)
      subst hAe
      have d0 := hS.blk.cell 0
      simp only [List.getElem?_toArray, List.getElem?_cons_zero] at d0
      have HT := Lib.hid (take_snoc' hx)
      obtain ⟨p, hp⟩ : ∃ p, pops (S, n0) (xs.take i) = p := ⟨_, rfl⟩
      rw [hp] at HS
      have HP := Lib.hid hp
      clear hx hS hC hp
      go_wp2_with (at_delete; go_loud (refine wpList_kdrop _ rfl (.tmp 18) (.tmp 19) 54 rfl 57 kEnc Try.underlying54 mb p.2 _ rfl HS.out.map x rfl ?_; intro w3 hI3 hgr3 hsz3; obtain ⟨hs3, hc3⟩ := HS.out.pop x hI3 hgr3; have HS3 := Lib.hid hs3; have HC3 := Lib.hid hc3; clear hI3 hgr3 hs3 hc3))
      go_roundw
      case rel => exact ⟨i + 1, by omega, by go_num, by rw [HT.out, pops_snoc, HP.out]; exact HS3.out, HC.out.trans (HC3.out.mono fun _ _ h => Or.inr h)⟩
      case measure => simp [intOf]; omega
    · have hin : ¬ (i : Int) < (n : Nat) := by omega
      have hie : i = n := by omega
      clear hS hC
      go_wp2_with fail
      refine bodyPost_end (results_none rfl _ _ _) rfl ?_
      refine ⟨rfl, ?_, HC.out⟩
      have := HS.out
      rwa [hie, ← HX.out, List.take_length] at this

theorem len_any (s mb n : Nat) (fl : Value) (S : Int → Bool) (w : World) (h : SetM w s mb fl S n) : Calls Try.prog 18 #[.pointer (some ⟨s, 0, none⟩)] w fun r w' => r = .returned (.int .i64 n) ∧ w = w' := by
  have c0 := h.blk.cell 0
  simp only [List.getElem?_toArray, List.getElem?_cons_zero] at c0
  have hl := h.map.len (P := Try.prog) Try.underlying54 3
  clear h
  go_enter Try.func18, Try.ntmps18
  go_wp2_with fail
  go_ret
  exact ⟨rfl, rfl⟩
end Go.Proofs.Ytjifdcklmpibpaa
