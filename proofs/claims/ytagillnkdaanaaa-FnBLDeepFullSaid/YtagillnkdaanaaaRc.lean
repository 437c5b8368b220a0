/- WALKS: blFilter: the filter that is looked at. -/
import Derived.Test.YtagillnkdaanaaaRb
namespace Go.Proofs.Ytagillnkdaanaaa
open Go.RowKit
set_option linter.unusedVariables false
set_option linter.unusedSimpArgs false

theorem Ch.grows {w w' : World} (h : Ch S0 w w') : w.grownBy w' none := ⟨h.os, h.tape, h.output, h.size, fun k hk _ => h.block k hk (fun h => h)⟩
theorem Ch.ofGrown {w w' : World} {S : Nat → Prop} {r : Option Nat} (h : w.grownBy w' r) (hr : ∀ k, r = some k → S k) : Ch S w w' :=
  ⟨h.os, h.tape, h.output, h.size, fun k hk hn => h.block k hk fun e => hn (hr k e.symm)⟩
theorem own_keep {w w' : World} {base e size n : Nat} {v : Value} {xs : List Value} (h : w.ownsRow base e size v n xs) (hc : Ch S0 w w') : w'.ownsRow base e size v n xs :=
  h.kept hc.grows (by cases hv : v.ownBlock <;> simp)
theorem own_set {w : World} {base e size n : Nat} {v : Value} {xs : List Value} (h : w.ownsRow base e size v n xs) {a : Addr} (ha : a.block < base) (u : Value) : (w.setCell a u).ownsRow base e size v n xs :=
  ownsRow_setCell_below h ha u
theorem BlInv.keep {W wr w' : World} {M K : Nat} {g : Nat → Bool} {i : Nat} {v : Value} (h : BlInv W wr M K g i v) (hc : Ch S0 wr w') : BlInv W w' M K g i v :=
  ⟨h.res.keep hc (fun h => h), h.blk.keep hc (fun h => h), own_keep h.own hc, h.ch.trans hc⟩
theorem BlInv.grow {W wr w' : World} {M K : Nat} {g : Nat → Bool} {i : Nat} {v v' : Value} (h : BlInv W wr M K g i v) {x : Int} (hx : x = ((Bit.wd g i : Nat) : Int))
    (hown : w'.ownsRow (W.heap.size + 2) 39 1 v' (i + 1) (((List.range i).map fun j => Value.int .u64 (Bit.wd g j : Nat)) ++ [.int .u64 x])) (hgr : (wr.alloc (.cells #[.int .u64 x] 39)).grownBy w' v.ownBlock) :
    (w'.cell? ⟨W.heap.size + 1, 2, none⟩ = some v ∧ w'.frozen? ⟨W.heap.size + 1, 2, none⟩ = false) ∧ BlInv W (w'.setCell ⟨W.heap.size + 1, 2, none⟩ v') M K g (i + 1) v' := by
  subst hx
  have hv := h.own.lt
  have hsz := h.ch.size
  have hc : Ch (fun k => W.heap.size + 2 ≤ k) wr w' := ((Ch.refl _ _).alloc _).trans (Ch.ofGrown hgr fun k hk => (hv k hk).1)
  have hb1 := h.blk.keep hc (by simp)
  refine ⟨⟨by rw [hb1.cell]; rfl, hb1.free 2⟩, (h.res.keep hc (by simp)).setOther (by simp) _, ?_, ?_, (h.ch.trans' hc (fun i hi hs => by omega)).setCell _ (fun hl => by simp at hl; omega) _⟩
  · have := hb1.set 2 v'
    simpa using this
  · have := own_set hown (a := ⟨W.heap.size + 1, 2, none⟩) (by simp) v'
    rw [List.range_succ, List.map_append]
    simpa using this

theorem own_wds {w : World} {base n : Nat} {v : Value} {g : Nat → Bool} (h : w.ownsRow base 39 1 v n ((List.range n).map fun j => Value.int .u64 (Bit.wd g j : Nat))) : ∃ A cap, v = .slice A n cap ∧ Wds w A n g := by
  obtain ⟨h1, h2⟩ := h
  rcases h2 with ⟨rfl, h2⟩ | ⟨q, cap, cur, rfl, hb, hh, h3, h4, h5, h6⟩
  · subst h2; exact ⟨none, 0, rfl, fun j hj => by omega⟩
  · refine ⟨_, cap, rfl, fun j hj => ⟨q, 0, rfl, ?_⟩⟩
    have := congrArg (fun l => l[j]?) h6
    simp only [Nat.mul_one, List.getElem?_take, hj, if_true, List.getElem?_map, List.getElem?_range hj, Option.map_some] at this
    simp only [World.cell?, hh, Nat.zero_add]
    simpa using this


theorem mask_word (l : Nat) (h : l < 64) : IntKind.u64.wrap (IntKind.u64.wrap (2 ^ l) - 1) = ((2 ^ l - 1 : Nat) : Int) := by
  have h1 := Bit.two_pow_lt64 l h
  have h2 := Nat.two_pow_pos l
  rw [wrap_two l h, IntKind.wrap_u64, Int.emod_eq_of_lt (by omega) (by omega)]
  omega
theorem mask_lt (l : Nat) (h : l < 64) : 2 ^ l - 1 < 18446744073709551616 := by
  have h1 := Bit.two_pow_lt64 l h
  omega

set_option maxRecDepth 100000 in
set_option maxHeartbeats 4000000 in
theorem blfilter_any (m k len cap : Nat) (A : Option Addr) (x : Nat → Nat) (w : World) (hm : m < 65536) (hk : k < 256) (hlen : (len : Int) ≤ 4611686018427387903) (hA : WIn w A len x) :
    Calls Try.prog 6 #[.int .u16 m, .int .u8 k, .slice A len cap] w fun e w' => ∃ v, e = .returned v ∧ IsF w' v (1 + m % 700) (1 + k % 8) ((1 + m % 700 + 63) / 64) (fBits (1 + m % 700) len x) ∧ Ch S0 w w' := by
  obtain ⟨M, hM⟩ : ∃ M, M = 1 + m % 700 := ⟨_, rfl⟩
  obtain ⟨K, hK⟩ : ∃ K, K = 1 + k % 8 := ⟨_, rfl⟩
  have hM1 : 0 < M ∧ M ≤ 700 := by omega
  have hK1 : 0 < K ∧ K ≤ 8 := by omega
  have eM : (1 : Int) + (m : Int) % 700 = (M : Nat) := by omega
  have eK : (1 : Int) + (k : Int) % 8 = (K : Nat) := by omega
  have eM' : (1 : Int) + ((m : Int)).tmod 700 = (M : Nat) := by rw [Int.tmod_eq_emod_of_nonneg (by omega)]; exact eM
  have eK' : (1 : Int) + ((k : Int)).tmod 8 = (K : Nat) := by rw [Int.tmod_eq_emod_of_nonneg (by omega)]; exact eK
  rw [← hM, ← hK]
  obtain ⟨n, hn⟩ : ∃ n, n = (M + 63) / 64 := ⟨_, rfl⟩
  rw [← hn]
  obtain ⟨g, hg⟩ : ∃ g, g = fBits M len x := ⟨_, rfl⟩
  rw [← hg]
  have hI : BlInv w ((w.alloc (Obj.cells #[Value.int .u64 0, .int .u64 0, .slice none 0 0] 27)).alloc (Obj.cells #[Value.int .u64 (M : Nat), .int .u64 (K : Nat), .slice none 0 0] 27)) M K g 0 (.slice none 0 0) := by
    refine ⟨(Blk.new _ _ _).alloc _, ?_, World.ownsRow_nil _ _ _ _, ((Ch.refl _ _).alloc _).alloc _⟩
    have := Blk.new (w.alloc (Obj.cells #[Value.int .u64 0, .int .u64 0, .slice none 0 0] 27)) #[Value.int .u64 (M : Nat), .int .u64 (K : Nat), .slice none 0 0] 27
    simpa using this
  have HI := Lib.hid hI
  have HA := Lib.hid hA
  have HG := Lib.hid hg
  have HM := Lib.hid hM
  have HK := Lib.hid hK
  clear hI hA hg hM hK
  go_enter Try.func6, Try.ntmps6
  go_wp2_with fail
  go_loopw [8] (fun kk wr => ∃ (j : Nat) (v : Value), j ≤ n ∧ kk = .int .u64 j ∧ BlInv w wr M K g j v) (fun kk _ => n - (intOf kk).toNat)
  case atStart => exact ⟨0, _, Nat.zero_le _, rfl, HI.out⟩
  case round =>
    obtain ⟨j, v, hj, rfl, hJ⟩ := hrel
    have c0 : wr.cell? ⟨w.heap.size + 1, 0, none⟩ = some (.int .u64 M) := by rw [hJ.blk.cell]; rfl
    have c1 : wr.cell? ⟨w.heap.size + 1, 1, none⟩ = some (.int .u64 K) := by rw [hJ.blk.cell]; rfl
    have c2 : wr.cell? ⟨w.heap.size + 1, 2, none⟩ = some v := by rw [hJ.blk.cell]; rfl
    have hsz := hJ.blk.lt
    have hown := hJ.own
    have HJ := Lib.hid hJ
    clear hJ
    by_cases hlt : j < n
    · have hlt1 : (j : Int) < ((M : Int) + 63) / 64 := by omega
      by_cases hl : j < len
      · by_cases hk1 : M < 64 * j + 64
        · skip
          obtain ⟨hx, q, o, hA1, hcell⟩ := HA.out j hl
          have hcell2 : wr.cell? ⟨q, o + j, none⟩ = some (.int .u64 (x j : Nat)) := by rw [World.cell?_of_block (w := w) (HJ.out.ch.block q (World.block_lt_of_cell? w _ hcell) (fun h => h))]; exact hcell
          have hl1 : (j : Int) < (len : Nat) := by omega
          have HX := Lib.hid hx
          clear hx hcell
          subst hA1
          have hk2 : (M : Int) - 64 * (j : Nat) < 64 := by omega
          have hval : (bits BinOp.and IntKind.u64 (x j : Nat) (IntKind.u64.wrap (IntKind.u64.wrap (2 ^ (M - 64 * j)) - 1))) = ((Bit.wd g j : Nat) : Int) := by rw [mask_word _ (by omega), u64_and_nat _ _ HX.out (mask_lt _ (by omega)), HG.out, ← fBits_mask HX.out hl (l := M - 64 * j) (by omega) (by omega)]
          have HV := Lib.hid hval
          clear hval
          go_wp2_with (at_builtin; go_loud (refine app23 rfl _ _ rfl (w.heap.size + 2) _ v _ rfl hown (.int .u64 (bits BinOp.and IntKind.u64 (x j : Nat) (IntKind.u64.wrap (IntKind.u64.wrap (2 ^ (M - 64 * j)) - 1)))) rfl rfl (by omega) (by omega) ?_); intro q' c' w3 hown3 hgr3; obtain ⟨⟨q0, q1⟩, hfin⟩ := HJ.out.grow HV.out hown3 hgr3; have HF := Lib.hid hfin; clear hown3 hgr3 hfin)
          go_roundw
          case rel => exact ⟨j + 1, _, by omega, by go_num, HF.out⟩
          case measure => simp [intOf]; omega
        · skip
          obtain ⟨hx, q, o, hA1, hcell⟩ := HA.out j hl
          have hcell2 : wr.cell? ⟨q, o + j, none⟩ = some (.int .u64 (x j : Nat)) := by rw [World.cell?_of_block (w := w) (HJ.out.ch.block q (World.block_lt_of_cell? w _ hcell) (fun h => h))]; exact hcell
          have hl1 : (j : Int) < (len : Nat) := by omega
          have HX := Lib.hid hx
          clear hx hcell
          subst hA1
          have hk2 : ¬ (M : Int) - 64 * (j : Nat) < 64 := by omega
          have hval : ((x j : Nat)) = ((Bit.wd g j : Nat) : Int) := by rw [HG.out, ← fBits_word HX.out hl (by omega)]
          have HV := Lib.hid hval
          clear hval
          go_wp2_with (at_builtin; go_loud (refine app23 rfl _ _ rfl (w.heap.size + 2) _ v _ rfl hown (.int .u64 ((x j : Nat))) rfl rfl (by omega) (by omega) ?_); intro q' c' w3 hown3 hgr3; obtain ⟨⟨q0, q1⟩, hfin⟩ := HJ.out.grow HV.out hown3 hgr3; have HF := Lib.hid hfin; clear hown3 hgr3 hfin)
          go_roundw
          case rel => exact ⟨j + 1, _, by omega, by go_num, HF.out⟩
          case measure => simp [intOf]; omega
      · by_cases hk1 : M < 64 * j + 64
        · skip
          have hl1 : ¬ (j : Int) < (len : Nat) := by omega
          have hk2 : (M : Int) - 64 * (j : Nat) < 64 := by omega
          have hval : (bits BinOp.and IntKind.u64 0 (IntKind.u64.wrap (IntKind.u64.wrap (2 ^ (M - 64 * j)) - 1))) = ((Bit.wd g j : Nat) : Int) := by rw [mask_word _ (by omega), show (0 : Int) = ((0 : Nat) : Int) from rfl, u64_and_nat _ _ (by omega) (mask_lt _ (by omega)), HG.out, ← fBits_zero (M := M) (x := x) (show len ≤ j by omega), Nat.zero_and]
          have HV := Lib.hid hval
          clear hval
          go_wp2_with (at_builtin; go_loud (refine app23 rfl _ _ rfl (w.heap.size + 2) _ v _ rfl hown (.int .u64 (bits BinOp.and IntKind.u64 0 (IntKind.u64.wrap (IntKind.u64.wrap (2 ^ (M - 64 * j)) - 1)))) rfl rfl (by omega) (by omega) ?_); intro q' c' w3 hown3 hgr3; obtain ⟨⟨q0, q1⟩, hfin⟩ := HJ.out.grow HV.out hown3 hgr3; have HF := Lib.hid hfin; clear hown3 hgr3 hfin)
          go_roundw
          case rel => exact ⟨j + 1, _, by omega, by go_num, HF.out⟩
          case measure => simp [intOf]; omega
        · skip
          have hl1 : ¬ (j : Int) < (len : Nat) := by omega
          have hk2 : ¬ (M : Int) - 64 * (j : Nat) < 64 := by omega
          have hval : (0) = ((Bit.wd g j : Nat) : Int) := by rw [HG.out, ← fBits_zero (M := M) (x := x) (show len ≤ j by omega)]; rfl
          have HV := Lib.hid hval
          clear hval
          go_wp2_with (at_builtin; go_loud (refine app23 rfl _ _ rfl (w.heap.size + 2) _ v _ rfl hown (.int .u64 (0)) rfl rfl (by omega) (by omega) ?_); intro q' c' w3 hown3 hgr3; obtain ⟨⟨q0, q1⟩, hfin⟩ := HJ.out.grow HV.out hown3 hgr3; have HF := Lib.hid hfin; clear hown3 hgr3 hfin)
          go_roundw
          case rel => exact ⟨j + 1, _, by omega, by go_num, HF.out⟩
          case measure => simp [intOf]; omega
    · have hm2 : j = n := by omega
      have hlt1 : ¬ (j : Int) < ((M : Int) + 63) / 64 := by omega
      subst hm2
      have r0 : wr.cell? ⟨w.heap.size, 0, none⟩ = some (.int .u64 0) := by rw [HJ.out.res.cell]; rfl
      have r1 : wr.cell? ⟨w.heap.size, 1, none⟩ = some (.int .u64 0) := by rw [HJ.out.res.cell]; rfl
      have r2 : wr.cell? ⟨w.heap.size, 2, none⟩ = some (.slice none 0 0) := by rw [HJ.out.res.cell]; rfl
      have q0 := HJ.out.res.free 0
      have q1 := HJ.out.res.free 1
      have q2 := HJ.out.res.free 2
      obtain ⟨A', c', rfl, hw⟩ := own_wds hown
      have HW := Lib.hid hw
      have HN := Lib.hid hn
      clear hw hown hn
      go_wp2_with fail
      refine bodyPost_ret (v := .agg #[.int .u64 M, .int .u64 K, .slice A' j c']) (by simp [results, Try.results6, go_sem, r0, r1, r2, q0, q1, q2]) rfl ⟨_, rfl, ⟨by have := HN.out; omega, fun k hk => by rw [HG.out]; exact fBits_off (by have := HN.out; omega), _, _, rfl, ?_⟩, ?_⟩
      · intro i hi
        obtain ⟨p, o, e1, e2⟩ := HW.out i hi
        refine ⟨p, o, e1, ?_⟩
        have hp : w.heap.size ≠ p := by
          subst e1
          rcases HJ.out.own.2 with ⟨h, _⟩ | ⟨p', _, _, h, hb, _⟩
          · cases h
          · cases h; omega
        simp [World.cell?_setCell_other, hp, e2]
      · exact ((((HJ.out.ch).setCell _ (fun h => absurd h (by simp)) _).setCell _ (fun h => absurd h (by simp)) _).setCell _ (fun h => absurd h (by simp)) _)
end Go.Proofs.Ytagillnkdaanaaa
