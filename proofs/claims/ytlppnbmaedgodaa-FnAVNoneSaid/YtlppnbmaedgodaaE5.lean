/- MEMORY: an entry takes another's place; how far a balance is from nought; the plain end of an insertion. -/
import Derived.Test.YtlppnbmaedgodaaE4
import Derived.Laws.FloatArith
namespace Go.Proofs.Ytlppnbmaedgodaa
open Go.RowKit
set_option linter.unusedVariables false
set_option linter.unusedSimpArgs false

/-- The bits without the sign. -/
def nosign (b : Nat) : Nat := (bits BinOp.andNot IntKind.u64 (b : Int) 9223372036854775808).toNat
set_option maxRecDepth 100000 in
theorem abs_any (b : Nat) (w : World) : Calls Try.prog 36 #[.float .f64 b] w fun r w' => r = .returned (.float .f64 (nosign b)) ∧ w' = w := by
  have hfb : ∀ (b : Nat) (w : World), (callFunc 41 #[.float .f64 b]).run Try.prog w = .ok (.value (.int .u64 b)) w := fun _ _ => by kernel_rfl
  have hfr : ∀ (n : Int) (w : World), (callFunc 40 #[.int .u64 n]).run Try.prog w = .ok (.value (.float .f64 n.toNat)) w := fun _ _ => by kernel_rfl
  obtain ⟨z, hz⟩ : ∃ z, bits BinOp.andNot IntKind.u64 (b : Int) 9223372036854775808 = z := ⟨_, rfl⟩
  have HZ : Hid (nosign b = z.toNat) := Lib.hid (by unfold nosign; rw [hz])
  go_enter Try.func36, Try.ntmps36
  go_wp2_with fail
  go_ret
  exact ⟨by rw [HZ.out]; rfl, rfl⟩
def farOk (d : Int) : Bool := (FloatKind.f64.format.order (nosign (floatOfInt .f64 d)) 4607182418800017408 == some .gt) == (decide (1 < d) || decide (d < -1))
theorem far_all : ((List.range 5).all fun c => farOk ((c : Int) - 2)) = true := by kernel_rfl
theorem far_cmp (d : Int) (h1 : -2 ≤ d) (h2 : d ≤ 2) : (FloatKind.f64.format.order (nosign (floatOfInt .f64 d)) 4607182418800017408 == some .gt) = (decide (1 < d) || decide (d < -1)) := by
  have h := List.all_eq_true.1 far_all (d + 2).toNat (List.mem_range.2 (by omega))
  have e : (((d + 2).toNat : Nat) : Int) - 2 = d := by omega
  rw [e] at h
  exact eq_of_beq h
/-- An entry takes the place of one with its key. -/
theorem Dn.over {w0 : World} {cp D r0 n : Nat} {F : List Fr} {a : Nat} {b : Int} {l r : T} {k v : Int} {w : World} (d : Dn w0 cp D r0 n F (.node a b l r k v) w) (val : Int) (hA : (zip F (.node a b l r k v)).Avl) (hO : Ord (zip F (.node a b l r k val)).toL) (hn : (zip F (.node a b l r k val)).toL.length = n) (hf : n ≤ 100000) :
    Imm (w.setCell ⟨a, 3, none⟩ (en k val)) cp (zip F (.node a b l r k val)) ∧ Ch (SI cp (some r0)) w0 (w.setCell ⟨a, 3, none⟩ (en k val)) ∧ (∀ x, (zip F (.node a b l r k val)).adr = some x → some r0 = some x ∨ w0.heap.size ≤ x) ∧ (∀ x ∈ (zip F (.node a b l r k val)).bl, OldB w0 cp x ∨ w0.heap.size ≤ x) := by
  obtain ⟨f1, g1, g2, g3⟩ := d.frs
  have nd := d.nd
  simp only [T.bl] at nd
  obtain ⟨a1, a2, a3⟩ := nodup_cut (E := []) nd
  have hC : Ch (S1 a) w (w.setCell ⟨a, 3, none⟩ (en k val)) := Ch.setCell (S := S1 a) (Ch.refl _ w) ⟨a, 3, none⟩ (fun _ => rfl) _
  have ne : ∀ {L : List Nat}, a ∉ L → ∀ x ∈ L, ¬ S1 a x := fun hh x hx e => hh (by rw [← show x = a from e]; exact hx)
  have hperm := zip_bl F (.node a b l r k val)
  have hadr : (zip F (.node a b l r k val)).adr = some r0 := by
    rw [zip_adr]
    have := d.tp
    cases F with
    | nil => exact this
    | cons f F => exact this
  have c1 := d.cpo
  have hcp : cp ≠ a := fun e => c1 (by simp [T.bl, e])
  refine ⟨⟨?_, ?_, hperm.nodup_iff.2 d.nd, ?_, hO, fun hh => c1 (hperm.mem_iff.1 hh), by omega⟩, ?_, ?_, fun x hx => d.old x (hperm.mem_iff.1 hx)⟩
  · rw [hadr, hn]
    exact d.ow.keep hC (fun e => hcp (show cp = a from e))
  · rw [rep_zip]
    exact ⟨f1.keep hC (ne a1), by have := g1.set 3 (en k val); simpa [ncell] using this, g2.keep hC (ne a2), g3.keep hC (ne a3)⟩
  · exact (zip_put (t := .node a b l r k v) (t' := .node a b l r k val) (show (T.node a b l r k val).Avl from (zip_sub hA : (T.node a b l r k v).Avl)) rfl hA).1
  · refine d.ch.trans' hC (fun i hi e => ?_)
    have e : i = a := e
    rcases d.newP a rfl with e1 | e1
    · exact Or.inr (by rw [e, e1])
    · omega
  · intro x hx
    rw [hadr] at hx
    exact Or.inl hx
/-- Where s stands: the first of the nodes below, or the last one. -/
def hdA (fs : List Fr) (a : Nat) : Nat := match fs with | [] => a | s :: _ => s.a
/-- Below s all are in balance; s is not, or is the first of all. -/
def Zr (fs1 fs2 : List Fr) (b : Int) : Prop := match fs2 with | [] => b ≠ 0 ∨ fs1 = [] | s :: gs => (s.b ≠ 0 ∨ fs1 = []) ∧ (∀ g ∈ gs, g.b = 0) ∧ b = 0
structure Pl (t0 : T) (key : Int) (F : List Fr) (P : T) : Prop where
  tol : (zip F P).toL = t0.toL
  avl : (zip F P).Avl
  way : Way key F
def L1 (w0 : World) (cp D r0 n : Nat) (t0 : T) (key : Int) (kx : Nat) (v6 v7 v11 : Value) (wr : World) : Prop :=
  ∃ fs1 fs2 a b l r kk vv, v6 = .pointer (some ⟨a, 0, none⟩) ∧ v7 = .pointer (some ⟨hdA fs2 a, 0, none⟩) ∧ v11 = .pointer (some ⟨lastA D fs1, 0, none⟩) ∧ (T.node a b l r kk vv).size = kx ∧ Dn w0 cp D r0 n (fs1 ++ fs2) (.node a b l r kk vv) wr ∧ Pl t0 key (fs1 ++ fs2) (.node a b l r kk vv) ∧ Zr fs1 fs2 b
theorem dn_start {w w1 : World} {cp r0 n : Nat} {b0 : Int} {tl tr : T} {k0 v0 : Int} (h : Imm w cp (.node r0 b0 tl tr k0 v0)) (hb : Blk w1 cp #[.pointer (some ⟨r0, 0, none⟩), .int .u64 n, .int .i8 0, .pointer none, .pointer none, .nilIface]) (hc : Ch (S1 cp) w w1) :
    Dn w cp w1.heap.size r0 n [] (.node r0 b0 tl tr k0 v0) (((w1.alloc (.cells #[.int .i8 0, .pointer none, .pointer none, .nilIface] 68)).setCell ⟨w1.heap.size, 2, none⟩ (.pointer (some ⟨r0, 0, none⟩))).drew) := by
  have hcl := hb.lt
  have hlt := h.rep.lt
  have hsz := hc.size
  have hC2 : Ch (S1 w1.heap.size) w1 (((w1.alloc (.cells #[.int .i8 0, .pointer none, .pointer none, .nilIface] 68)).setCell ⟨w1.heap.size, 2, none⟩ (.pointer (some ⟨r0, 0, none⟩))).drew) := (Ch.setCell (S := S1 w1.heap.size) ((Ch.refl _ w1).alloc _) ⟨w1.heap.size, 2, none⟩ (fun _ => rfl) _).drew
  refine ⟨hb.keep hC2 (fun e => by have e : cp = w1.heap.size := e; omega), ?_, ?_, ?_, ?_, ?_, by omega, rfl, fun f hf => (by cases hf), fun a e => (by cases e; exact Or.inl rfl), hsz, fun x hx => Or.inl ⟨_, h, by simpa [frBl] using hx⟩, ?_⟩
  · have := ((Blk.new w1 #[.int .i8 0, .pointer none, .pointer none, .nilIface] 68).set 2 (.pointer (some ⟨r0, 0, none⟩))).drew
    simpa using this
  · refine (h.rep.keep hc (fun x hx e => h.out (by rw [← show x = cp from e]; exact hx))).keep hC2 (fun x hx e => ?_)
    have e : x = w1.heap.size := e
    have := hlt x hx
    omega
  · simpa [frBl] using h.nd
  · simpa [frBl] using h.out
  · intro hx
    have := hlt w1.heap.size (by simpa [frBl] using hx)
    omega
  · exact (hc.mono (fun k _ e => Or.inl e)).trans' hC2 (fun i hi e => by have e : i = w1.heap.size := e; omega)
/-- The way to the new place, from s on. -/
def topA (todo : List Fr) (Q : Nat) : Nat := match todo with | [] => Q | g :: _ => g.a
theorem zr_path {fs1 fs2 : List Fr} {b : Int} (h : Zr fs1 fs2 b) (a : Nat) (d : Bool) (l : T) (k v : Int) : ∃ s gs, fs2 ++ [⟨a, b, d, l, k, v⟩] = s :: gs ∧ hdA fs2 a = s.a ∧ (s.b ≠ 0 ∨ fs1 = []) ∧ ∀ g ∈ gs, g.b = 0 := by
  cases fs2 with
  | nil => exact ⟨_, [], rfl, rfl, h, fun g hg => (by cases hg)⟩
  | cons s gs =>
    obtain ⟨h1, h2, h3⟩ := h
    refine ⟨s, gs ++ [⟨a, b, d, l, k, v⟩], rfl, rfl, h1, fun g hg => ?_⟩
    rcases List.mem_append.1 hg with hg | hg
    · exact h2 g hg
    · obtain rfl := List.mem_singleton.1 hg
      exact h3
theorem avl_mem : ∀ {F : List Fr} {t : T} {f : Fr}, (zip F t).Avl → f ∈ F → -1 ≤ f.b ∧ f.b ≤ 1
  | g :: F, t, f, h, hf => by
    obtain ⟨h1, h2, h3, h4, h5⟩ := (fill_avl g _).1 h
    rcases List.mem_cons.1 hf with e | hf
    · subst e; exact ⟨h2, h3⟩
    · exact avl_mem h5 hf
/-- The balances are written one by one. -/
def L2 (w0 : World) (cp D r0 n Q : Nat) (key val : Int) (fs1 path : List Fr) (kx : Nat) (v6 : Value) (wr : World) : Prop :=
  ∃ done todo, path = done ++ todo ∧ v6 = .pointer (some ⟨topA todo Q, 0, none⟩) ∧ todo.length = kx ∧ Dn w0 cp D r0 n (fs1 ++ (ups done ++ todo)) (leaf Q key val) wr
theorem ups_snoc (done : List Fr) (g : Fr) : ups (done ++ [g]) = ups done ++ [g.up] := by simp [ups]
/-- What an insertion says, from the places where it ends. -/
theorem ins_end {w w' : World} {cp r0 : Nat} {t0 t' : T} {key val : Int} (hi : Imm w cp t0) (hold : ∀ x ∈ t'.bl, OldB w cp x ∨ w.heap.size ≤ x) (h0 : t0.adr = some r0) (hI : Imm w' cp t') (hl : t'.toL = lins key val t0.toL) (hg : lget key t0.toL = none) (hc : Ch (SI cp (some r0)) w w') (ha : ∀ x, t'.adr = some x → x = r0 ∨ w.heap.size ≤ x) : InsR w cp t0 key val (.returned .nilIface) w' := by
  refine ⟨t', by rw [hg]; rfl, hI, hl, by rw [h0]; exact hc, fun x hx => ?_, fun x hx => (hold x hx).imp (fun h => h.of hi) id⟩
  rcases ha x hx with e | e
  · exact Or.inl (by rw [h0, e])
  · exact Or.inr e
theorem hdA_snoc (fs : List Fr) (f : Fr) (Q : Nat) : hdA (fs ++ [f]) Q = hdA fs f.a := by cases fs <;> rfl
theorem zr_zero {fs1 fs2 : List Fr} {a : Nat} {b : Int} {d : Bool} {l : T} {k v : Int} (h : Zr fs1 fs2 b) : Zr fs1 (fs2 ++ [⟨a, b, d, l, k, v⟩]) 0 := by
  cases fs2 with
  | nil => exact ⟨h, fun g hg => (by cases hg), rfl⟩
  | cons s gs =>
    obtain ⟨h1, h2, h3⟩ := h
    refine ⟨h1, fun g hg => ?_, rfl⟩
    rcases List.mem_append.1 hg with hg | hg
    · exact h2 g hg
    · obtain rfl := List.mem_singleton.1 hg
      exact h3
theorem pl_openR {t0 : T} {key : Int} {F : List Fr} {a : Nat} {b : Int} {l r : T} {k v : Int} (h : Pl t0 key F (.node a b l r k v)) (hk : k < key) : Pl t0 key (F ++ [⟨a, b, true, l, k, v⟩]) r :=
  ⟨by rw [zip_snoc]; exact h.tol, by rw [zip_snoc]; exact h.avl, fun f hf => by
    rcases List.mem_append.1 hf with hf | hf
    · exact h.way f hf
    · obtain rfl := List.mem_singleton.1 hf
      exact ⟨by show k ≠ key; omega, by simp [hk]⟩⟩
theorem pl_openL {t0 : T} {key : Int} {F : List Fr} {a : Nat} {b : Int} {l r : T} {k v : Int} (h : Pl t0 key F (.node a b l r k v)) (hk : key < k) : Pl t0 key (F ++ [⟨a, b, false, r, k, v⟩]) l :=
  ⟨by rw [zip_snoc]; exact h.tol, by rw [zip_snoc]; exact h.avl, fun f hf => by
    rcases List.mem_append.1 hf with hf | hf
    · exact h.way f hf
    · obtain rfl := List.mem_singleton.1 hf
      exact ⟨by show k ≠ key; omega, by simp; omega⟩⟩
theorem pl_adr {t0 : T} {key : Int} {F : List Fr} {a a' : Nat} {b : Int} {l r : T} {k v : Int} (h : Pl t0 key F (.node a b l r k v)) : Pl t0 key F (.node a' b l r k v) :=
  ⟨by have := h.tol; rw [zip_toL] at this ⊢; exact this, (zip_put (t := .node a b l r k v) (show (T.node a' b l r k v).Avl from (zip_sub h.avl : (T.node a b l r k v).Avl)) rfl h.avl).1, h.way⟩
theorem pl_goR {t0 : T} {key : Int} {F G : List Fr} {a Q ac : Nat} {b bc : Int} {l lc rc : T} {k v kc vc : Int} (h : Pl t0 key F (.node a b l (.node ac bc lc rc kc vc) k v)) (hk : k < key) (hG : F ++ [⟨a, b, true, l, k, v⟩] = G) : Pl t0 key G (.node Q bc lc rc kc vc) := by
  subst hG
  exact pl_adr (pl_openR h hk)
theorem pl_goL {t0 : T} {key : Int} {F G : List Fr} {a Q ac : Nat} {b bc : Int} {r lc rc : T} {k v kc vc : Int} (h : Pl t0 key F (.node a b (.node ac bc lc rc kc vc) r k v)) (hk : key < k) (hG : F ++ [⟨a, b, false, r, k, v⟩] = G) : Pl t0 key G (.node Q bc lc rc kc vc) := by
  subst hG
  exact pl_adr (pl_openL h hk)
theorem over_end {w0 w : World} {cp D r0 n : Nat} {t0 : T} {F : List Fr} {a : Nat} {b : Int} {l r : T} {k v val : Int} (h0 : Imm w0 cp t0) (hn : t0.toL.length = n) (hP : Pl t0 k F (.node a b l r k v)) (d : Dn w0 cp D r0 n F (.node a b l r k v) w) (ht : t0.adr = some r0) : InsR w0 cp t0 k val (.returned (en k v)) (w.setCell ⟨a, 3, none⟩ (en k val)) := by
  have ho := h0.ord
  rw [← hP.tol] at ho
  obtain ⟨h1, h2⟩ := over_list (v := val) hP.way ho
  have hO : Ord (zip F (.node a b l r k val)).toL := by rw [← h1]; exact lins_ord ho
  have hl : (zip F (.node a b l r k val)).toL.length = n := by
    rw [← hn, ← hP.tol, zip_toL, zip_toL]; simp [T.toL]
  obtain ⟨g1, g2, g3, g4⟩ := d.over val hP.avl hO hl (by have := h0.few; omega)
  refine ⟨_, by rw [← hP.tol, h2]; rfl, g1, by rw [← hP.tol, h1], by rw [ht]; exact g2, fun x hx => by rw [ht]; exact g3 x hx, fun x hx => (g4 x hx).imp (fun h => h.of h0) id⟩
theorem q_ne {a s Q : Nat} (h : a < s) (e : s = Q) : a ≠ Q := by omega
end Go.Proofs.Ytlppnbmaedgodaa
