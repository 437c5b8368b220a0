/- WALKS: the search among sorted numbers; a number put in. -/
import Derived.Deep.LoopGhost
import Derived.Shelf.Abstract
import Derived.Test.YtpkeiankocimaaaID
import Derived.Test.YtpkeiankocimaaaIP
import Derived.Test.YtpkeiankocimaaaIT
namespace Go.Proofs.Ytpkeiankocimaaa
open Go.RowKit Go.Sort
set_option linter.unusedVariables false
set_option linter.unusedSimpArgs false

theorem elS : EL Try.prog 55 2 1 8 := EL.of (z := .int .i64 0) Try.underlying55 (by kernel_rfl) rfl (by decide)

set_option maxRecDepth 100000 in
theorem clos_any (ba bx n c i : Nat) (A : Option Addr) (s : List Int) (x : Int) (w : World) (hs : s.length = n) (hi : i < n) (ha : w.cell? ⟨ba, 0, none⟩ = some (.slice A n c)) (hx : w.cell? ⟨bx, 0, none⟩ = some (.int .i64 x)) (hR : Rd w A (iv s)) :
    Calls Try.prog 43 #[.int .i64 i, .pointer (some ⟨ba, 0, none⟩), .pointer (some ⟨bx, 0, none⟩)] w fun r w' => r = .returned (.bool (decide (x ≤ s.getD i 0))) ∧ Ch S0 w w' := by
  obtain ⟨y, hy⟩ : ∃ y, s[i]? = some y := ⟨s[i], by simp [show i < s.length by omega]⟩
  obtain ⟨q, o, e, c0⟩ := hR.at (iv_at hy)
  subst e
  have e2 : s.getD i 0 = y := by simp [List.getD, hy]
  rw [e2]
  have hlti : (i : Int) < (n : Nat) := by omega
  clear hy e2 hR hs
  go_enter Try.func43, Try.ntmps43
  go_wp2_with fail
  go_quiet (fail)
  go_wp2_with fail
  go_ret
  exact ⟨rfl, rfl, rfl, rfl, Nat.le_refl _, fun _ _ _ => rfl⟩

set_option maxHeartbeats 4000000 in
set_option maxRecDepth 100000 in
theorem search_any (g : Nat) (cb : Array Value) (n : Nat) (p : Nat → Bool) (w : World) (eg : ∀ args w, (callFunc g args).run Try.prog w = .ok (.enter g args) w) (hsz : n ≤ 1000000)
    (hf : ∀ (wr : World) (i : Nat), i < n → Ch S0 w wr → Calls Try.prog g (#[.int .i64 i] ++ cb) wr fun e w' => e = .returned (.bool (p i)) ∧ Ch S0 wr w')
    (hmono : ∀ a b, a ≤ b → b < n → p a = true → p b = true) :
    Calls Try.prog 42 #[.int .i64 n, .func (.func g) #[] cb] w fun e w' => (∃ r : Nat, e = .returned (.int .i64 r) ∧ r ≤ n ∧ (∀ t, t < r → p t = false) ∧ (∀ t, r ≤ t → t < n → p t = true)) ∧ Ch S0 w w' := by
  have HF := Lib.hid hf
  have M := Lib.hid hmono
  clear hf hmono
  go_enter Try.func42, Try.ntmps42
  go_wp2_with fail
  go_loopg [5, 6] n (fun kx s5 s6 wr => ∃ (lo hi : Nat), s5 = .int .i64 lo ∧ s6 = .int .i64 hi ∧ lo ≤ hi ∧ hi ≤ n ∧ hi - lo ≤ kx ∧ Ch S0 w wr ∧
    Hid ((∀ t, t < lo → p t = false) ∧ (∀ t, hi ≤ t → t < n → p t = true)))
  case atStart => exact ⟨0, n, rfl, rfl, Nat.zero_le _, Nat.le_refl _, by omega, Ch.refl _ _, Lib.hid ⟨fun t ht => absurd ht (Nat.not_lt_zero _), fun t h1 h2 => by omega⟩⟩
  case round =>
    obtain ⟨lo, hi, rfl, rfl, hlh, hin, hg, hC, I⟩ := hrel
    have HC := Lib.hid hC
    clear hC
    by_cases hlt : lo < hi
    · have hc := HF.out wr ((lo + hi) / 2) (by omega) HC.out
      rw [show (((lo + hi) / 2 : Nat) : Int) = ((lo : Int) + (hi : Int)) / 2 by omega] at hc
      cases hp : p ((lo + hi) / 2) <;> rw [hp] at hc
      · have HP := Lib.hid hp
        clear hp
        go_wp2_with (go_at_fn g; refine hc.mono ?_; rintro e w' ⟨rfl, hC2⟩; have HC2 := Lib.hid (HC.out.trans hC2); clear hC2)
        go_roundg (hi - ((lo + hi) / 2 + 1))
        case measure => omega
        case rel =>
          exact ⟨(lo + hi) / 2 + 1, hi, by rw [show ((lo : Int) + (hi : Int)) / 2 + 1 = (((lo + hi) / 2 + 1 : Nat) : Int) by omega], rfl, by omega, hin, Nat.le_refl _, HC2.out, Lib.hid ⟨fun t ht => (by
            cases h : p t with
            | false => rfl
            | true => have := M.out t ((lo + hi) / 2) (by omega) (by omega) h; rw [HP.out] at this; cases this), I.out.2⟩⟩
      · have HP := Lib.hid hp
        clear hp
        go_wp2_with (go_at_fn g; refine hc.mono ?_; rintro e w' ⟨rfl, hC2⟩; have HC2 := Lib.hid (HC.out.trans hC2); clear hC2)
        go_roundg ((lo + hi) / 2 - lo)
        case measure => omega
        case rel =>
          exact ⟨lo, (lo + hi) / 2, rfl, by rw [show ((lo : Int) + (hi : Int)) / 2 = (((lo + hi) / 2 : Nat) : Int) by omega], by omega, by omega, Nat.le_refl _, HC2.out, Lib.hid ⟨I.out.1, fun t ht htn => M.out ((lo + hi) / 2) t ht htn HP.out⟩⟩
    · obtain rfl : hi = lo := by omega
      go_wp2_with fail
      go_ret
      exact ⟨⟨hi, rfl, hin, I.out.1, I.out.2⟩, HC.out⟩

set_option maxRecDepth 100000 in
theorem sSearch_any (A : Option Addr) (n c : Nat) (s : List Int) (x : Int) (w : World) (hs : s.length = n) (hn : n ≤ 1000000) (hp : s.Pairwise (· < ·)) (hR : Rd w A (iv s)) :
    Calls Try.prog 23 #[.slice A n c, .int .i64 x] w fun r w' => r = .returned (.int .i64 (less s x : Nat)) ∧ Ch S0 w w' := by
  have eg : ∀ args w, (callFunc 43 args).run Try.prog w = .ok (.enter 43 args) w := enters_of Try.func43 (by kernel_rfl) rfl
  obtain ⟨W0, hW0⟩ : ∃ W0, W0 = (w.alloc (.cells #[.slice A n c] 55)).alloc (.cells #[.int .i64 x] 2) := ⟨_, rfl⟩
  have hC0 : Ch S0 w W0 := by rw [hW0]; exact ((Ch.refl _ _).alloc _).alloc _
  have ca : W0.cell? ⟨w.heap.size, 0, none⟩ = some (.slice A n c) := by
    rw [hW0]
    obtain ⟨b, o, e, h⟩ := ((Rd.new w [.slice A n c] 55).keep0 ((Ch.refl S0 _).alloc (.cells #[.int .i64 x] 2))).at (j := 0) rfl
    cases e
    exact h
  have cx : W0.cell? ⟨w.heap.size + 1, 0, none⟩ = some (.int .i64 x) := by
    rw [hW0]
    obtain ⟨b, o, e, h⟩ := (Rd.new' (w := w.alloc (.cells #[.slice A n c] 55)) [.int .i64 x] (T := 2) (World.size_alloc _ _)).at (j := 0) rfl
    cases e
    exact h
  have hR0 := hR.keep0 hC0
  have l0 : w.heap.size < W0.heap.size := by rw [hW0, World.size_alloc, World.size_alloc]; omega
  have l1 : w.heap.size + 1 < W0.heap.size := by rw [hW0, World.size_alloc, World.size_alloc]; omega
  have keep : ∀ {wr : World} {b : Nat} {v : Value}, Ch S0 W0 wr → b < W0.heap.size → W0.cell? ⟨b, 0, none⟩ = some v → wr.cell? ⟨b, 0, none⟩ = some v := fun hc hb hv => by
    rw [World.cell?_of_block (w := W0) (hc.block _ hb (fun h => h))]; exact hv
  have hS := search_any 43 #[.pointer (some ⟨w.heap.size, 0, none⟩), .pointer (some ⟨w.heap.size + 1, 0, none⟩)] n (fun i => decide (x ≤ s.getD i 0)) W0 eg hn
    (fun wr i hi hc => clos_any w.heap.size (w.heap.size + 1) n c i A s x wr hs hi (keep hc l0 ca) (keep hc l1 cx) (hR0.keep0 hc))
    (fun a b hab hb h => by
      have := sorted_at hp hab (by omega)
      simp only [decide_eq_true_eq] at h ⊢
      omega)
  have HS := Lib.hid hS
  have HC0 := Lib.hid hC0
  have HSl := Lib.hid hs
  clear hS hC0 ca cx hR0 l0 l1 keep hR hp hs
  go_enter Try.func23, Try.ntmps23
  go_wp2_with (rw [← hW0]; refine HS.out.mono ?_; rintro r w1 ⟨⟨k, rfl, hk, h1, h2⟩, hC⟩; have HC := Lib.hid (HC0.out.trans hC); have HK := Lib.hid (⟨hk, h1, h2⟩ : _ ∧ _ ∧ _); clear hC hk h1 h2)
  go_ret
  obtain ⟨hk, h1, h2⟩ := HK.out
  have e : less s x = k := less_at (by rw [HSl.out]; exact hk) (fun t ht => by have := h1 t ht; simpa using this) (fun t ht hl => by have := h2 t ht (by rw [← HSl.out]; exact hl); simpa using this)
  exact ⟨by rw [e]; rfl, HC.out⟩

set_option maxRecDepth 100000 in
theorem ints_any (A : Option Addr) (n c : Nat) (s : List Int) (w : World) (hs : s.length = n) (h0 : 0 < n) (hn : n ≤ 1000000) (hR : Rd w A (iv s)) :
    Calls Try.prog 22 #[.slice A n c] w fun r w' => ∃ v, r = .returned v ∧ w'.ownsRow w.heap.size 2 1 v n (iv s) ∧ Ch S0 w w' := by
  obtain ⟨b, o, rfl, _⟩ := hR.lt (by simp; omega)
  have HS := Lib.hid hs
  have HR := Lib.hid hR
  clear hs hR
  go_enter Try.func22, Try.ntmps22
  go_wp2_with (at_builtin; go_loud (refine app_all2 elS Try.underlying25 rfl (.const (.slice none 0 0)) (.tmp 3) rfl w.heap.size 0 (.slice none 0 0) [] rfl (World.ownsRow_nil _ _ _ _) b o n c (iv s) (by rw [iv_length, HS.out]; omega) (iv_one s) rfl HR.out (by unfold maxLen; omega) (by omega) (Nat.le_refl _) ?_); intro v' w4 hown4 hc4 hb4; have HOw := Lib.hid hown4; have HC4 := Lib.hid hc4; clear hown4 hc4 hb4)
  go_ret
  refine ⟨_, rfl, ?_, HC4.out.mono fun k _ hk => by cases hk⟩
  have := HOw.out
  simpa using this

set_option maxRecDepth 100000 in
theorem isSearch_any (A : Option Addr) (n c : Nat) (s : List Int) (x : Int) (w : World) (hs : s.length = n) (h0 : 0 < n) (hn : n ≤ 1000000) (hp : s.Pairwise (· < ·)) (hR : Rd w A (iv s)) :
    Calls Try.prog 10 #[.slice A n c, .int .i64 x] w fun r w' => r = .returned (.int .i64 (less s x : Nat)) ∧ Ch S0 w w' := by
  have HS := Lib.hid hs
  have HR := Lib.hid hR
  have HP := Lib.hid hp
  clear hs hR hp
  go_enter Try.func10, Try.ntmps10
  go_wp2_with fail
  refine (ints_any A n c s _ HS.out h0 hn HR.out).mono ?_
  rintro r w1 ⟨v, rfl, hO, hC⟩
  obtain ⟨A1, c1, rfl, hR1, _⟩ := own_rd hO
  have HR1 := Lib.hid hR1
  have HC := Lib.hid hC
  clear hR1 hO hC
  go_wp2_with fail
  refine (sSearch_any A1 n c1 s x _ HS.out hn HP.out HR1.out).mono ?_
  rintro r w2 ⟨rfl, hC2⟩
  have HC2 := Lib.hid (HC.out.trans hC2)
  clear hC2
  go_wp2_with fail
  go_ret
  exact ⟨rfl, HC2.out⟩
end Go.Proofs.Ytpkeiankocimaaa
