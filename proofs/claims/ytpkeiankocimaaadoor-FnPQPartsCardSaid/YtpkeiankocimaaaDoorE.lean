/- WALKS: a queue in memory; several elements taken out of it. -/
import Derived.Test.YtpkeiankocimaaaDoorD
import Derived.Test.YtpkeiankocimaaaDoorE0
import Derived.Deep.LoopGhost
import Derived.Deep.CutBlock
import Derived.Shelf.Abstract
namespace Go.Proofs.YtpkeiankocimaaaDoor
open Go.RowKit
set_option linter.unusedVariables false
set_option linter.unusedSimpArgs false

/-- An element in an interface. -/
abbrev kV (p : El) : Value := .iface 54 (eP p)
theorem en_kV (p : El) : en p = kV p := rfl
theorem Tryd.infoE : (Tryd.prog.info? 68).map (·.zero) = some (some (.agg #[])) := by kernel_rfl
theorem zeroE (w : World) : (zeroValue 68).run Tryd.prog w = .ok (.agg #[]) w := by
  obtain ⟨i, h1, h2⟩ := Option.map_eq_some_iff.1 Tryd.infoE
  simp [zeroValue, krun_ty h1, h2, Result.andThen]

/-- A queue in memory: its own block, the row, the map. -/
structure QS (w : World) (base q n cap g mb : Nat) (dup : Bool) (a : List El) : Prop where
  qm : QM w base q n cap g (.map (some mb)) (.bool false) (.bool dup) a
  hp : Heap (keyAt a) n
  map : ∃ f nn, KMap kV w mb f nn ∧ (dup = false → ∀ p, (f p).isSome = true ↔ p ∈ a)
  nd : dup = false → a.Nodup
  nq : mb ≠ q
  ng : mb ≠ g
def SQ (q mb g : Nat) : Nat → Prop := fun k => k = q ∨ k = mb ∨ k = g

theorem QS.keep {S : Nat → Prop} {w w' : World} {base q n cap g mb : Nat} {dup : Bool} {a : List El} (h : QS w base q n cap g mb dup a) (hc : Ch S w w') (h1 : ¬ S q) (h2 : ¬ S mb) (h3 : ¬ S g) : QS w' base q n cap g mb dup a := by
  obtain ⟨f, nn, hm, hf⟩ := h.map
  exact ⟨h.qm.keep hc h1 h3, h.hp, ⟨f, nn, hm.keep (hc.block _ hm.lt h2), hf⟩, h.nd, h.nq, h.ng⟩

/-- The map without these. -/
def Wo (mb : Nat) (f : El → Option Value) (out : List El) (w' : World) : Prop := ∃ f' nn', KMap kV w' mb f' nn' ∧ ∀ p, f' p = if p ∈ out then none else f p
set_option maxRecDepth 100000 in
theorem del_any (bx q mb k cap nn : Nat) (A : Option Addr) (out : List El) (f : El → Option Value) (v0 vd vp : Value) (w : World) (hx : w.cell? ⟨bx, 0, none⟩ = some (.pointer (some ⟨q, 0, none⟩))) (hq : Blk w q #[v0, .map (some mb), vd, vp])
    (hm : KMap kV w mb f nn) (hR : Rd w A (ev out)) (hk : out.length = k) (hk2 : k ≤ 1000000) (h1 : mb ≠ q) (h2 : mb ≠ bx) (h3 : ∀ b o, A = some ⟨b, o, none⟩ → b ≠ mb) :
    Calls Tryd.prog 26 #[.slice A k cap, .pointer (some ⟨bx, 0, none⟩)] w fun r w' => r = .returned (.tuple #[]) ∧ Wo mb f out w' ∧ Ch (S1 mb) w w' := by
  have HX := Lib.hid hx
  have HQ := Lib.hid hq
  have HM := Lib.hid hm
  have HR := Lib.hid hR
  have HK := Lib.hid hk
  have H3 := Lib.hid h3
  clear hx hq hm hR hk h3
  go_enter Tryd.func26, Tryd.ntmps26
  go_wp2_with fail
  go_loopw [7] (fun vi wr => ∃ i : Nat, i ≤ k ∧ vi = .int .i64 i ∧ Wo mb f (out.take i) wr ∧ Ch (S1 mb) w wr) (fun vi _ => k - (intOf vi).toNat)
  case atStart => exact ⟨0, by omega, rfl, ⟨f, nn, HM.out, by simp⟩, Ch.refl _ _⟩
  case round =>
    obtain ⟨i, hi, rfl, ⟨f', nn', hm, hf⟩, hC⟩ := hrel
    have HM' := Lib.hid hm
    have HF' := Lib.hid hf
    have HC := Lib.hid hC
    clear hm hf hC
    by_cases hlt : i < k
    · have hlti : (i : Int) < (k : Nat) := by omega
      have hi0 : (0 : Int) ≤ (i : Nat) := by omega
      obtain ⟨x, hx⟩ : ∃ x, out[i]? = some x := ⟨out[i]'(by have := HK.out; omega), by simp [HK.out, hlt]⟩
      obtain ⟨qa, o, e, c0⟩ := (HR.out.keep HC.out (fun b o h e => H3.out b o h e)).at (j := i) (x := kV x) (by simp [ev, hx, en_kV])
      subst e
      have b1 := (HQ.out.keep HC.out (fun e => h1 e.symm)).cell 1
      simp only [List.getElem?_toArray, List.getElem?_cons_zero, List.getElem?_cons_succ] at b1
      have x1 : wr.cell? ⟨bx, 0, none⟩ = some (.pointer (some ⟨q, 0, none⟩)) := by
        rw [World.cell?_of_block (w := w) (HC.out.block _ (World.block_lt_of_cell? _ _ HX.out) (fun e => h2 e.symm))]
        exact HX.out
      have HT : Hid (∀ p, p ∈ out.take (i + 1) ↔ p ∈ out.take i ∨ p = x) := Lib.hid (by intro p; rw [List.take_add_one, hx]; simp)
      clear hx
      go_wp2_with (at_delete; go_loud (refine wpList_kdrop _ rfl (.tmp 14) (.tmp 15) 50 rfl 68 kP Tryd.underlying50 mb nn' _ rfl HM'.out x rfl ?_; intro w3 hI3 hgr3 hsz3; have HI3 := Lib.hid hI3; have HC3 : Hid (Ch (S1 mb) wr w3) := Lib.hid (Ch.ofGrown hgr3 fun k hk => by cases hk; rfl); clear hI3 hgr3))
      go_roundw
      case rel =>
        refine ⟨i + 1, by omega, by go_num, ⟨_, _, HI3.out, fun p => ?_⟩, HC.out.trans HC3.out⟩
        have h9 := HT.out p
        have h8 := HF'.out p
        by_cases e : p = x
        · have : p ∈ out.take (i + 1) := h9.2 (Or.inr e)
          show (if p = x then none else f' p) = _
          rw [if_pos e, if_pos this]
        · show (if p = x then none else f' p) = _
          rw [if_neg e, h8]
          by_cases e2 : p ∈ out.take i
          · have : p ∈ out.take (i + 1) := h9.2 (Or.inl e2)
            rw [if_pos e2, if_pos this]
          · have : ¬ p ∈ out.take (i + 1) := fun h => (h9.1 h).elim e2 e
            rw [if_neg e2, if_neg this]
      case measure => simp [intOf]; omega
    · have hin : ¬ (i : Int) < (k : Nat) := by omega
      have hie : i = k := by omega
      go_wp2_with fail
      refine bodyPost_end (results_none rfl _ _ _) rfl ?_
      refine ⟨rfl, ⟨f', nn', HM'.out, ?_⟩, HC.out⟩
      have := HF'.out
      rwa [hie, ← HK.out, List.take_length] at this

/-- What is told by Get. -/
def GotR (w : World) (base q cap g mb m : Nat) (dup : Bool) (a : List El) (r : Ending) (w' : World) : Prop := ∃ A k c out b n', r = .returned (.tuple #[.slice A k c, .nilIface]) ∧ out.length = k ∧ Rd w' A (ev out) ∧ (∀ b o s, A = some ⟨b, o, s⟩ → w.heap.size ≤ b) ∧ QS w' base q n' cap g mb dup b ∧ Out a out b m

set_option maxHeartbeats 8000000 in
set_option maxRecDepth 100000 in
theorem Get_any (base q n cap g mb m : Nat) (dup : Bool) (a : List El) (w : World) (h : QS w base q n cap g mb dup a) (hn : n ≤ 2000) (hm0 : 1 ≤ m) (hm : m ≤ 1000) :
    Calls Tryd.prog 21 #[.pointer (some ⟨q, 0, none⟩), .int .i64 m] w fun r w' => GotR w base q cap g mb m dup a r w' ∧ Ch (SQ q mb g) w w' := by
  have hq := h.qm.blk
  have hql := hq.lt
  have hgl : g < w.heap.size := (own_lt h.qm.row g rfl).2
  obtain ⟨f, nn, hmp, hf⟩ := h.map
  have hml := hmp.lt
  have hmi : ¬ (m : Int) < 1 := by omega
  have HH := Lib.hid h
  have hB1 := Blk.new w #[.pointer (some ⟨q, 0, none⟩)] 44
  obtain ⟨W1, hW1⟩ : ∃ W1, W1 = w.alloc (.cells #[.pointer (some ⟨q, 0, none⟩)] 44) := ⟨_, rfl⟩
  rw [← hW1] at hB1
  have hC1 : Ch S0 w W1 := by rw [hW1]; exact (Ch.refl _ _).alloc _
  have hs1 : W1.heap.size = w.heap.size + 1 := by rw [hW1]; simp
  have HQ1 := Lib.hid (h.qm.keep hC1 (fun h => h) (fun h => h))
  have x0 := hB1.cell 0
  have q2 := hq.cell 2
  simp only [List.getElem?_toArray, List.getElem?_cons_zero, List.getElem?_cons_succ] at x0 q2
  have HW1 := Lib.hid hW1
  have HC1 := Lib.hid hC1
  have HB1 := Lib.hid hB1
  have HM := Lib.hid hmp
  have HF := Lib.hid hf
  have hne1 := h.nq
  have hne2 := h.ng
  have hne3 := h.qm.ne
  have HHp := Lib.hid h.hp
  have eg : ∀ args w, (callFunc 26 args).run Tryd.prog w = .ok (.enter 26 args) w := enters_of Tryd.func26 (by kernel_rfl) rfl
  clear h hmp hf hq hW1 hC1 hB1
  go_enter Tryd.func21, Tryd.ntmps21
  go_upto_region 5 with fail
  rw [← HW1.out]
  go_wp2_with fail
  refine (get_any base q n cap g m _ _ _ a _ HQ1.out HHp.out hn hm).mono ?_
  rintro r w2 ⟨⟨v, out, b, k, n', rfl, hO, hQ2, hB2, hU⟩, hC2⟩
  have x2 := (HB1.out.keep hC2 (fun e => by rcases e with e | e <;> omega)).cell 0
  simp only [List.getElem?_toArray, List.getElem?_cons_zero] at x2
  obtain ⟨A, c, rfl, hR, _, hA, _, hkl⟩ := own_rd hO
  have hol : out.length = k := by simpa using hkl
  have HOl := Lib.hid hol
  have HR := Lib.hid hR
  have HA := Lib.hid hA
  have HM2 := Lib.hid (HM.out.keep ((hC2.block _ (by omega) (fun e => by rcases e with e | e <;> omega)).trans (HC1.out.block _ hml (fun h => h))))
  have hl2 := hU.perm.length_eq
  have hal := HH.out.qm.len
  have hdel := del_any w.heap.size q mb k c nn A out f _ _ _ _ x2 hQ2.blk HM2.out hR hol (by simp at hl2; omega) hne1 (by omega) (fun b o h => by have := (hA b o none h).2.1; omega)
  have HD := Lib.hid hdel
  have HQ2 := Lib.hid hQ2
  have HB2 := Lib.hid hB2
  have HU := Lib.hid hU
  have HC2 := Lib.hid hC2
  clear hO hQ2 hB2 hU hC2 hR hA hkl hol x2 hdel hl2 hal
  go_wp2_with (go_at_fn 26; refine HD.out.mono ?_; rintro r w3 ⟨rfl, hw, hC3⟩; have HWo := Lib.hid hw; have HC3 := Lib.hid hC3; clear hw hC3)
  refine bodyPost_ret (v := .tuple #[.slice A k c, .nilIface]) (by simp [results, Tryd.results21, go_sem]) rfl ?_
  have hs2 := HC2.out.size
  have hC23 : Ch (SQ q mb g) w w3 := ((HC1.out.mono (fun _ _ h => h.elim)).trans (HC2.out.mono (fun k _ h => h.elim Or.inl (fun h => Or.inr (Or.inr h))))).trans (HC3.out.mono (fun k _ h => Or.inr (Or.inl h)))
  refine ⟨⟨A, k, c, out, b, n', rfl, HOl.out, HR.out.keep HC3.out (fun b o h e => by have := (HA.out b o none h).2.1; have e : b = mb := e; omega), fun b o s h => by have := (HA.out b o s h).2.1; omega, ?_, HU.out⟩, hC23⟩
  obtain ⟨f', nn', hm', hf'⟩ := HWo.out
  refine ⟨HQ2.out.keep HC3.out (fun e => hne1 (Eq.symm e)) (fun e => hne2 (Eq.symm e)), HB2.out, ⟨f', nn', hm', fun hd p => ?_⟩, fun hd => ?_, hne1, hne2⟩
  · have hnd := (HU.out.perm.nodup_iff).1 (HH.out.nd hd)
    have h1 := HF.out hd p
    have h2 := HU.out.perm.mem_iff (a := p)
    rw [hf' p]
    by_cases e : p ∈ out
    · rw [if_pos e]
      have h3 : p ∉ b := fun h => (List.nodup_append.1 hnd).2.2 p e p h rfl
      simp [h3]
    · rw [if_neg e, h1, h2, List.mem_append]
      simp [e]
  · exact (List.nodup_append.1 ((HU.out.perm.nodup_iff).1 (HH.out.nd hd))).2.1
end Go.Proofs.YtpkeiankocimaaaDoor
