/-
  Tarjan's walk: the parts are the strongly connected components that hold a cycle. No Go in sight.
-/
import Derived.Test.YbulkcykJohn
namespace Go.Proofs.Ybulkcyk

/-- From x to z through members. -/
inductive RM (A : Nat → List Nat) (M : Nat → Prop) : Nat → Nat → Prop
  | refl {x : Nat} : RM A M x x
  | step {x y z : Nat} : y ∈ A x → M y → RM A M y z → RM A M x z
theorem RM.trans {A : Nat → List Nat} {M : Nat → Prop} {x y z : Nat} (h : RM A M x y) (h2 : RM A M y z) : RM A M x z := by
  induction h with
  | refl => exact h2
  | step a b _ ih => exact .step a b (ih h2)
theorem RM.closed {A : Nat → List Nat} {M D : Nat → Prop} (hD : ∀ x, D x → ∀ y ∈ A x, M y → D y) {x y : Nat} (h : RM A M x y) : D x → D y := by
  induction h with
  | refl => exact id
  | step a b _ ih => exact fun hx => ih (hD _ hx _ a b)
theorem RM.one {A : Nat → List Nat} {M : Nat → Prop} {x y : Nat} (h : y ∈ A x) (hy : M y) : RM A M x y := .step h hy .refl

theorem filter_le {p q : Nat → Bool} : ∀ l : List Nat, (∀ u, p u = true → q u = true) → (l.filter p).length ≤ (l.filter q).length := by
  intro l h
  induction l with
  | nil => exact Nat.le_refl _
  | cons a r ih =>
    by_cases hp : p a = true
    · rw [List.filter_cons_of_pos hp, List.filter_cons_of_pos (h a hp)]; simp; exact ih
    · rw [List.filter_cons_of_neg hp]
      by_cases hq : q a = true
      · rw [List.filter_cons_of_pos hq]; simp; omega
      · rw [List.filter_cons_of_neg hq]; exact ih
/-- How many are reached; how many are active. -/
def cV (n : Nat) (t : Tj) : Nat := ((List.range n).filter (fun u => decide (t.idx u ≠ 0))).length
def cA (n : Nat) (id : Int) (t : Tj) : Nat := ((List.range n).filter (fun u => decide (t.pof u = id))).length
structure TI (A : Nat → List Nat) (M : Nat → Prop) (id : Int) (np0 : Nat) (p0 : Nat → Int) (n K : Nat) (t : Tj) : Prop where
  stk : ∀ u, u ∈ t.stk ↔ (t.pof u = id ∧ t.idx u ≠ 0)
  ord : t.stk.Pairwise (fun a b => t.idx a < t.idx b)
  le : ∀ u, t.idx u ≤ t.rch
  ons : ∀ u, t.ons u = true ↔ u ∈ t.stk
  sub : ∀ u, t.pof u = id → M u
  out : ∀ u, ¬ M u → t.pof u = p0 u
  vis : ∀ u, t.idx u ≠ 0 → M u
  dvis : ∀ u, M u → t.pof u ≠ id → t.idx u ≠ 0
  cls : ∀ x, M x → t.pof x ≠ id → ∀ y ∈ A x, M y → t.pof y ≠ id
  npl : np0 ≤ t.np
  rng : ∀ u, M u → t.pof u ≠ id → (t.pof u = -1 ∨ ((np0 : Int) ≤ t.pof u ∧ t.pof u < t.np))
  eqv : ∀ x y, M x → M y → t.pof x ≠ id → t.pof y ≠ id → t.pof x = t.pof y → 0 ≤ t.pof x → RM A M x y
  max : ∀ x y, M x → M y → t.pof x ≠ id → RM A M x y → RM A M y x → t.pof y = t.pof x ∧ (x ≠ y → 0 ≤ t.pof x)
  lop : ∀ x, M x → t.pof x ≠ id → (0 ≤ t.pof x → x ∈ A x ∨ ∃ y, y ≠ x ∧ M y ∧ t.pof y = t.pof x) ∧ (x ∈ A x → 0 ≤ t.pof x)
  rb : t.rch ≤ cV n t
  nb : t.np + cA n id t ≤ K
section
variable {A : Nat → List Nat} {M : Nat → Prop} {id : Int} {np0 : Nat} {p0 : Nat → Int} {n K : Nat}
theorem TI.setLow {t : Tj} (h : TI A M id np0 p0 n K t) (l : Nat → Nat) : TI A M id np0 p0 n K { t with low := l } :=
  ⟨h.stk, h.ord, h.le, h.ons, h.sub, h.out, h.vis, h.dvis, h.cls, h.npl, h.rng, h.eqv, h.max, h.lop, h.rb, h.nb⟩

structure WP (A : Nat → List Nat) (M : Nat → Prop) (v : Nat) (t t' : Tj) : Prop where
  seg : ∃ seg, t'.stk = t.stk ++ seg ∧ (∀ x ∈ seg, ∃ y ∈ t.stk, RM A M x y) ∧ (∀ x ∈ seg, ∀ y ∈ A x, y ∈ t.stk → t'.low v ≤ t.idx y) ∧ (t'.low v = t'.idx v ∨ ∃ y ∈ t.stk, t.idx y = t'.low v ∧ RM A M v y)
  vv : t'.idx v ≠ 0
  vgt : t.rch < t'.idx v
  old : ∀ u, t.idx u ≠ 0 → t'.idx u = t.idx u ∧ t'.low u = t.low u
  new : ∀ x, t'.idx x ≠ 0 → t.idx x = 0 → t.rch < t'.idx x ∧ RM A M v x ∧ ∀ y ∈ A x, M y → t'.idx y ≠ 0
  rch : t.rch ≤ t'.rch
/-- Behind some rounds of walk's loop. -/
structure WL (A : Nat → List Nat) (M : Nat → Prop) (id : Int) (np0 : Nat) (p0 : Nat → Int) (n K : Nat) (v : Nat) (t : Tj) (pre : List Nat) (t1 : Tj) : Prop where
  ti : TI A M id np0 p0 n K t1
  seg : ∃ seg, t1.stk = (t.stk ++ [v]) ++ seg ∧ (∀ x ∈ seg, ∃ y ∈ t.stk ++ [v], RM A M x y) ∧ (∀ x ∈ seg, ∀ y ∈ A x, y ∈ t.stk → t1.low v ≤ t.idx y)
  iv : t1.idx v = t.rch + 1
  l0 : t1.low v ≤ t.rch + 1
  l1 : t1.low v = t.rch + 1 ∨ ∃ y ∈ t.stk, t.idx y = t1.low v ∧ RM A M v y
  l2 : ∀ w ∈ pre, w ∈ t.stk → t1.low v ≤ t.idx w
  old : ∀ u, t.idx u ≠ 0 → t1.idx u = t.idx u ∧ t1.low u = t.low u
  new : ∀ x, t1.idx x ≠ 0 → t.idx x = 0 → x ≠ v → t.rch + 1 < t1.idx x ∧ RM A M v x ∧ ∀ y ∈ A x, M y → t1.idx y ≠ 0
  prv : ∀ w ∈ pre, M w → t1.idx w ≠ 0
  rch : t.rch + 1 ≤ t1.rch

theorem wl_start {v : Nat} {t : Tj} (hvlt : v < n) (T : TI A M id np0 p0 n K t) (hv : t.pof v = id) (h0 : t.idx v = 0) : WL A M id np0 p0 n K v t [] (walk0 v t) := by
  have hix : ∀ u, u ≠ v → (walk0 v t).idx u = t.idx u := fun u hu => upd_other _ _ hu
  have hiv : (walk0 v t).idx v = t.rch + 1 := upd_same _ _ _
  have hon : ∀ u, u ≠ v → (walk0 v t).ons u = t.ons u := fun u hu => upd_other _ _ hu
  have hvn : v ∉ t.stk := fun h => ((T.stk v).1 h).2 h0
  have hvis : ∀ u, t.idx u ≠ 0 → u ≠ v := fun u hu e => hu (by rw [e]; exact h0)
  refine ⟨⟨fun u => ?_, ?_, fun u => ?_, fun u => ?_, T.sub, T.out, fun u hu => ?_, fun u hm hp => ?_, T.cls, T.npl, T.rng, T.eqv, T.max, T.lop, ?_, T.nb⟩, ⟨[], by simp [walk0], fun x hx => absurd hx (by simp), fun x hx => absurd hx (by simp)⟩, hiv, ?_, .inl (upd_same _ _ _), fun w hw => absurd hw (by simp), fun u hu => ?_, fun x hx h1 h2 => ?_, fun w hw => absurd hw (by simp), Nat.le_refl _⟩
  · show u ∈ t.stk ++ [v] ↔ _
    by_cases e : u = v
    · subst e
      simp [hiv]
      exact hv
    · rw [hix u e]
      simp [e]
      exact T.stk u
  · show (t.stk ++ [v]).Pairwise _
    refine List.pairwise_append.2 ⟨?_, by simp, fun a ha b hb => ?_⟩
    · refine T.ord.imp_of_mem fun {a b} ha hb h => ?_
      rw [hix a (hvis a ((T.stk a).1 ha).2), hix b (hvis b ((T.stk b).1 hb).2)]
      exact h
    · obtain rfl := List.mem_singleton.1 hb
      rw [hiv, hix a (hvis a ((T.stk a).1 ha).2)]
      have := T.le a
      omega
  · by_cases e : u = v
    · subst e; rw [hiv]; exact Nat.le_refl _
    · rw [hix u e]; have := T.le u; show t.idx u ≤ t.rch + 1; omega
  · show _ ↔ u ∈ t.stk ++ [v]
    by_cases e : u = v
    · subst e
      rw [show (walk0 u t).ons u = true from upd_same _ _ _]
      simp
    · rw [hon u e, T.ons u]
      simp [e]
  · by_cases e : u = v
    · subst e; exact T.sub u hv
    · exact T.vis u (by rw [← hix u e]; exact hu)
  · have e : u ≠ v := fun e => hp (by rw [e]; exact hv)
    rw [hix u e]; exact T.dvis u hm hp
  · have h := filter_drop (fun u => decide ((walk0 v t).idx u ≠ 0)) v (List.range n) List.nodup_range
    rw [if_pos ⟨List.mem_range.2 hvlt, by rw [hiv]; simp⟩] at h
    have e : (List.range n).filter (fun u => decide ((walk0 v t).idx u ≠ 0) && !(u == v)) = (List.range n).filter (fun u => decide (t.idx u ≠ 0)) := List.filter_congr fun u _ => by
      by_cases e : u = v
      · subst e; simp [h0]
      · rw [hix u e]; simp [e]
    rw [e] at h
    have hrb := T.rb
    unfold cV at hrb ⊢
    show t.rch + 1 ≤ _
    omega
  · rw [show (walk0 v t).low v = t.rch + 1 from upd_same _ _ _]; exact Nat.le_refl _
  · exact ⟨hix u (hvis u hu), upd_other _ _ (hvis u hu)⟩
  · rw [hix x h2] at hx; exact absurd h1 hx

theorem wl_step {v w : Nat} {t t1 : Tj} {pre : List Nat} {f : Nat} (W : WL A M id np0 p0 n K v t pre t1) (h0 : t.idx v = 0) (hvM : M v) (hw : w ∈ A v)
    (ih : t1.pof w = id → t1.idx w = 0 → TI A M id np0 p0 n K (walkP A id f w t1) ∧ WP A M w t1 (walkP A id f w t1)) : WL A M id np0 p0 n K v t (pre ++ [w]) (walkS A id f v t1 w) := by
  obtain ⟨seg, hs, hs2, hs3⟩ := W.seg
  have hord := W.ti.ord
  rw [hs] at hord
  have hseg : ∀ y ∈ seg, t.rch + 1 < t1.idx y := fun y hy => by
    have := (List.pairwise_append.1 hord).2.2 v (by simp) y hy
    rw [W.iv] at this; exact this
  have hstk : ∀ y ∈ t.stk, y ∈ t1.stk := fun y hy => by rw [hs]; simp [hy]
  have hstv : ∀ y ∈ t.stk, t.idx y ≠ 0 → t1.idx y = t.idx y := fun y _ h => (W.old y h).1
  -- which of a stack's vertices lie below v
  have hcase : ∀ y, y ∈ t1.stk → t1.idx y < t.rch + 1 → y ∈ t.stk := fun y hy hl => by
    rw [hs] at hy
    rcases List.mem_append.1 hy with q | q
    · rcases List.mem_append.1 q with q | q
      · exact q
      · obtain rfl := List.mem_singleton.1 q; rw [W.iv] at hl; omega
    · have := hseg y q; omega
  unfold walkS
  by_cases hp : t1.pof w ≠ id
  · rw [if_pos hp]
    refine ⟨W.ti, W.seg, W.iv, W.l0, W.l1, fun x hx hxs => ?_, W.old, W.new, fun x hx hm => ?_, W.rch⟩
    · rcases List.mem_append.1 hx with q | q
      · exact W.l2 x q hxs
      · obtain rfl := List.mem_singleton.1 q
        exact absurd ((W.ti.stk x).1 (hstk x hxs)).1 hp
    · rcases List.mem_append.1 hx with q | q
      · exact W.prv x q hm
      · obtain rfl := List.mem_singleton.1 q
        exact W.ti.dvis x hm hp
  · rw [if_neg hp]
    have hp' : t1.pof w = id := by simpa using hp
    have hwM : M w := W.ti.sub w hp'
    by_cases hi : t1.idx w = 0
    · rw [if_pos hi]
      obtain ⟨T2, P⟩ := ih hp' hi
      generalize walkP A id f w t1 = t2 at *
      have hv1 : t1.idx v ≠ 0 := by rw [W.iv]; omega
      have hlv : t2.low v = t1.low v := (P.old v hv1).2
      have hl3 : ∀ u, u ≠ v → upd t2.low v (min (t2.low v) (t2.low w)) u = t2.low u := fun u hu => upd_other _ _ hu
      have hlm : upd t2.low v (min (t2.low v) (t2.low w)) v = min (t1.low v) (t2.low w) := by rw [upd_same, hlv]
      obtain ⟨sw, q1, q2, q3, q4⟩ := P.seg
      have hto : ∀ u, t.idx u ≠ 0 → t2.idx u = t.idx u ∧ t2.low u = t.low u := fun u hu => by
        have h1 := W.old u hu
        have h2 := P.old u (by rw [h1.1]; exact hu)
        exact ⟨h2.1.trans h1.1, h2.2.trans h1.2⟩
      refine ⟨T2.setLow _, ⟨seg ++ sw, by show t2.stk = _; rw [q1, hs]; simp, fun x hx => ?_, fun x hx y hy hyt => ?_⟩, (P.old v hv1).1.trans W.iv, ?_, ?_, fun x hx hxs => ?_, fun u hu => ⟨(hto u hu).1, ?_⟩, fun x hx h1 h2 => ?_, fun x hx hm => ?_, Nat.le_trans W.rch P.rch⟩
      · rcases List.mem_append.1 hx with q | q
        · exact hs2 x q
        · obtain ⟨y, hy, hr⟩ := q2 x q
          rw [hs] at hy
          rcases List.mem_append.1 hy with r | r
          · exact ⟨y, r, hr⟩
          · obtain ⟨z, hz, hr2⟩ := hs2 y r
            exact ⟨z, hz, hr.trans hr2⟩
      · show upd t2.low v (min (t2.low v) (t2.low w)) v ≤ _
        rw [hlm]
        rcases List.mem_append.1 hx with q | q
        · exact Nat.le_trans (Nat.min_le_left _ _) (hs3 x q y hy hyt)
        · have := q3 x q y hy (hstk y hyt)
          rw [hstv y hyt (by
            intro e
            by_cases e2 : y = v
            · subst e2
              have := hseg
              have hnd := (List.pairwise_append.1 (List.pairwise_append.1 hord).1).2.2 y hyt y (by simp)
              omega
            · have h1 := ((W.ti.stk y).1 (hstk y hyt)).2
              have := (W.new y h1 e e2).1
              have hnd := (List.pairwise_append.1 (List.pairwise_append.1 hord).1).2.2 y hyt v (by simp)
              rw [W.iv] at hnd
              omega)] at this
          exact Nat.le_trans (Nat.min_le_right _ _) this
      · show upd t2.low v (min (t2.low v) (t2.low w)) v ≤ _
        rw [hlm]
        exact Nat.le_trans (Nat.min_le_left _ _) W.l0
      · show upd t2.low v (min (t2.low v) (t2.low w)) v = _ ∨ ∃ y ∈ t.stk, t.idx y = upd t2.low v (min (t2.low v) (t2.low w)) v ∧ _
        rw [hlm]
        by_cases hle : t1.low v ≤ t2.low w
        · rw [Nat.min_eq_left hle]; exact W.l1
        · rw [Nat.min_eq_right (by omega)]
          rcases q4 with q | ⟨y, hy, hy1, hr⟩
          · have := P.vgt
            have := W.rch
            have := W.l0
            omega
          · have hl0 := W.l0
            have hyt := hcase y hy (by omega)
            refine .inr ⟨y, hyt, ?_, .step hw hwM hr⟩
            rw [← hy1]
            have hz : t.idx y ≠ 0 := by
              intro e
              by_cases e2 : y = v
              · subst e2; rw [W.iv] at hy1; omega
              · have := (W.new y (((W.ti.stk y).1 hy).2) e e2).1; omega
            exact (W.old y hz).1.symm
      · show upd t2.low v (min (t2.low v) (t2.low w)) v ≤ _
        rw [hlm]
        rcases List.mem_append.1 hx with q | q
        · exact Nat.le_trans (Nat.min_le_left _ _) (W.l2 x q hxs)
        · obtain rfl := List.mem_singleton.1 q
          exact absurd hi ((W.ti.stk x).1 (hstk x hxs)).2
      · have e : u ≠ v := fun e => hu (by rw [e]; exact h0)
        show upd t2.low v (min (t2.low v) (t2.low w)) u = _
        rw [hl3 u e]; exact (hto u hu).2
      · have hx' : t2.idx x ≠ 0 := hx
        by_cases h3 : t1.idx x = 0
        · have := P.new x hx' h3
          have hr := W.rch
          exact ⟨by show t.rch + 1 < t2.idx x; omega, .step hw hwM this.2.1, this.2.2⟩
        · have := W.new x h3 h1 h2
          refine ⟨by show t.rch + 1 < t2.idx x; rw [(P.old x h3).1]; exact this.1, this.2.1, fun y hy hm => ?_⟩
          have h4 := this.2.2 y hy hm
          show t2.idx y ≠ 0
          rw [(P.old y h4).1]; exact h4
      · show t2.idx x ≠ 0
        rcases List.mem_append.1 hx with q | q
        · have h4 := W.prv x q hm
          rw [(P.old x h4).1]; exact h4
        · obtain rfl := List.mem_singleton.1 q
          exact P.vv
    · rw [if_neg hi]
      have hwS : w ∈ t1.stk := (W.ti.stk w).2 ⟨hp', hi⟩
      rw [if_pos ((W.ti.ons w).2 hwS)]
      have hlm : upd t1.low v (min (t1.low v) (t1.idx w)) v = min (t1.low v) (t1.idx w) := upd_same _ _ _
      refine ⟨W.ti.setLow _, ⟨seg, hs, hs2, fun x hx y hy hyt => ?_⟩, W.iv, ?_, ?_, fun x hx hxs => ?_, fun u hu => ⟨(W.old u hu).1, ?_⟩, W.new, fun x hx hm => ?_, W.rch⟩
      · show upd t1.low v (min (t1.low v) (t1.idx w)) v ≤ _
        rw [hlm]
        exact Nat.le_trans (Nat.min_le_left _ _) (hs3 x hx y hy hyt)
      · show upd t1.low v (min (t1.low v) (t1.idx w)) v ≤ _
        rw [hlm]
        exact Nat.le_trans (Nat.min_le_left _ _) W.l0
      · show upd t1.low v (min (t1.low v) (t1.idx w)) v = _ ∨ ∃ y ∈ t.stk, t.idx y = upd t1.low v (min (t1.low v) (t1.idx w)) v ∧ _
        rw [hlm]
        by_cases hle : t1.low v ≤ t1.idx w
        · rw [Nat.min_eq_left hle]; exact W.l1
        · rw [Nat.min_eq_right (by omega)]
          have hl0 := W.l0
          have hyt := hcase w hwS (by omega)
          refine .inr ⟨w, hyt, ?_, .one hw hwM⟩
          have hz : t.idx w ≠ 0 := by
            intro e
            by_cases e2 : w = v
            · subst e2; have := W.iv; omega
            · have := (W.new w hi e e2).1; omega
          exact (W.old w hz).1.symm
      · show upd t1.low v (min (t1.low v) (t1.idx w)) v ≤ _
        rw [hlm]
        rcases List.mem_append.1 hx with q | q
        · exact Nat.le_trans (Nat.min_le_left _ _) (W.l2 x q hxs)
        · obtain rfl := List.mem_singleton.1 q
          have hz : t.idx x ≠ 0 := by
            intro e
            by_cases e2 : x = v
            · subst e2
              have hnd := (List.pairwise_append.1 (List.pairwise_append.1 hord).1).2.2 x hxs x (by simp)
              omega
            · have := (W.new x hi e e2).1
              have hnd := (List.pairwise_append.1 (List.pairwise_append.1 hord).1).2.2 x hxs v (by simp)
              rw [W.iv] at hnd
              omega
          rw [← (W.old x hz).1]
          exact Nat.min_le_right _ _
      · have e : u ≠ v := fun e => hu (by rw [e]; exact h0)
        show upd t1.low v (min (t1.low v) (t1.idx w)) u = _
        rw [upd_other _ _ e]; exact (W.old u hu).2
      · rcases List.mem_append.1 hx with q | q
        · exact W.prv x q hm
        · obtain rfl := List.mem_singleton.1 q
          exact hi

theorem mark_fold (q : Int) : ∀ (mem : List Nat) (t : Tj), mem.foldl (markS q) t = { t with ons := fun u => if u ∈ mem then false else t.ons u, pof := fun u => if u ∈ mem then q else t.pof u } := by
  intro mem
  induction mem with
  | nil => intro t; simp
  | cons m r ih =>
    intro t
    rw [List.foldl_cons, ih]
    unfold markS
    simp only [Tj.mk.injEq, true_and, and_true]
    refine ⟨?_, ?_⟩
    · funext u
      by_cases h1 : u ∈ r
      · simp [h1]
      · by_cases h2 : u = m
        · simp [h2, upd]
        · simp [h1, h2, upd]
    · funext u
      by_cases h1 : u ∈ r
      · simp [h1]
      · by_cases h2 : u = m
        · simp [h2, upd]
        · simp [h1, h2, upd]
theorem posOf_eq {pre post : List Nat} {v : Nat} (h : v ∉ post) : posOf (pre ++ v :: post) v = pre.length := by
  unfold posOf
  have e : (pre ++ v :: post).reverse = post.reverse ++ (v :: pre.reverse) := by simp
  have e2 : ((pre ++ v :: post).reverse.takeWhile (fun x => x != v)) = post.reverse := by
    rw [e]
    have hall : ∀ x ∈ post.reverse, (x != v) = true := fun x hx => by
      have : x ≠ v := fun e => h (by rw [← e]; simpa using hx)
      simpa using this
    rw [List.takeWhile_append_of_pos hall]
    simp
  rw [e2]
  simp

theorem walk_exit {v : Nat} {t t1 : Tj} (hvn : v < n) (T : TI A M id np0 p0 n K t) (W : WL A M id np0 p0 n K v t (A v) t1) (h0 : t.idx v = 0) (hvM : M v) (hid : id < (np0 : Int)) (hid0 : 0 ≤ id) : TI A M id np0 p0 n K (walkX A v t1) ∧ WP A M v t (walkX A v t1) := by
  obtain ⟨seg, hs, hs2, hs3⟩ := W.seg
  have hiv := W.iv
  have hord := W.ti.ord
  rw [hs] at hord
  have hv0 : t1.idx v ≠ 0 := by omega
  have hnewv : ∀ x, t1.idx x ≠ 0 → t.idx x = 0 → t.rch < t1.idx x ∧ RM A M v x ∧ ∀ y ∈ A x, M y → t1.idx y ≠ 0 := fun x hx h1 => by
    by_cases e : x = v
    · subst e
      exact ⟨by omega, .refl, fun y hy hm => W.prv y hy hm⟩
    · have := W.new x hx h1 e
      exact ⟨by omega, this.2⟩
  have hr := W.rch
  unfold walkX
  by_cases hlo : t1.low v ≠ t1.idx v
  · rw [if_pos hlo]
    refine ⟨W.ti, ⟨⟨v :: seg, by rw [hs]; simp, fun x hx => ?_, fun x hx y hy hyt => ?_, ?_⟩, hv0, by omega, W.old, hnewv, by omega⟩⟩
    · rcases W.l1 with q | ⟨y0, hy0, _, hr0⟩
      · rw [hiv] at hlo; exact absurd q hlo
      · rcases List.mem_cons.1 hx with rfl | q
        · exact ⟨y0, hy0, hr0⟩
        · obtain ⟨y, hy, hr1⟩ := hs2 x q
          rcases List.mem_append.1 hy with r | r
          · exact ⟨y, r, hr1⟩
          · obtain rfl := List.mem_singleton.1 r
            exact ⟨y0, hy0, hr1.trans hr0⟩
    · rcases List.mem_cons.1 hx with rfl | q
      · exact W.l2 y hy hyt
      · exact hs3 x q y hy hyt
    · rcases W.l1 with q | q
      · rw [hiv] at hlo; exact absurd q hlo
      · exact .inr q
  · rw [if_neg hlo]
    have hlo' : t1.low v = t.rch + 1 := by rw [← hiv]; simpa using hlo
    have hsv : t1.stk = t.stk ++ v :: seg := by rw [hs]; simp
    have hord2 : (t.stk ++ v :: seg).Pairwise (fun a b => t1.idx a < t1.idx b) := by rw [← hsv]; exact W.ti.ord
    have hvs : v ∉ seg := fun h => by
      have := (List.pairwise_cons.1 (List.pairwise_append.1 hord2).2.1).1 v h
      omega
    have hdis : ∀ u, u ∈ t.stk → u ∉ v :: seg := fun u hu hm => by
      have := (List.pairwise_append.1 hord2).2.2 u hu u hm
      omega
    have hpos : posOf t1.stk v = t.stk.length := by rw [hsv]; exact posOf_eq hvs
    have hmem : t1.stk.drop (posOf t1.stk v) = v :: seg := by rw [hpos, hsv]; simp
    have htk : t1.stk.take (posOf t1.stk v) = t.stk := by rw [hpos, hsv]; simp
    have hpop : popP A v t1 = { t1 with stk := t.stk, np := if isPart A v (v :: seg) then t1.np + 1 else t1.np, ons := fun u => if u ∈ v :: seg then false else t1.ons u, pof := fun u => if u ∈ v :: seg then (if isPart A v (v :: seg) then (t1.np : Int) else -1) else t1.pof u } := by
      unfold popP
      simp only [hmem, htk]
      rw [mark_fold]
    rw [hpop]
    have hmS : ∀ u, u ∈ v :: seg → t1.pof u = id ∧ t1.idx u ≠ 0 := fun u hu => (W.ti.stk u).1 (by rw [hsv]; exact List.mem_append_right _ hu)
    have hmM : ∀ u, u ∈ v :: seg → M u := fun u hu => W.ti.sub u (hmS u hu).1
    have hq : (if isPart A v (v :: seg) then (t1.np : Int) else -1) ≠ id := by
      have := W.ti.npl
      split <;> omega
    generalize hqq : (if isPart A v (v :: seg) then (t1.np : Int) else -1) = q at *
    -- the new parts
    have pin : ∀ u, u ∈ v :: seg → (if u ∈ v :: seg then q else t1.pof u) = q := fun u hu => if_pos hu
    have pout : ∀ u, u ∉ v :: seg → (if u ∈ v :: seg then q else t1.pof u) = t1.pof u := fun u hu => if_neg hu
    have pid : ∀ u, (if u ∈ v :: seg then q else t1.pof u) = id → u ∉ v :: seg ∧ t1.pof u = id := fun u hu => by
      by_cases h : u ∈ v :: seg
      · rw [if_pos h] at hu; exact absurd hu hq
      · rw [if_neg h] at hu; exact ⟨h, hu⟩
    have hstv : ∀ y, y ∈ t.stk → t1.idx y < t.rch + 1 := fun y hy => by
      have := (List.pairwise_append.1 hord2).2.2 y hy v (by simp)
      omega
    have hcls : ∀ x, M x → (if x ∈ v :: seg then q else t1.pof x) ≠ id → ∀ y ∈ A x, M y → (if y ∈ v :: seg then q else t1.pof y) ≠ id := by
      intro x hx hpx y hy hyM hpy
      obtain ⟨hyn, hyp⟩ := pid y hpy
      by_cases hxm : x ∈ v :: seg
      · have hyv : t1.idx y ≠ 0 := by
          rcases List.mem_cons.1 hxm with rfl | h
          · exact W.prv y hy hyM
          · have hxv : x ≠ v := fun e => hvs (by rw [← e]; exact h)
            have hgt := (List.pairwise_cons.1 (List.pairwise_append.1 hord2).2.1).1 x h
            have hz : t.idx x = 0 := by
              rcases Nat.eq_zero_or_pos (t.idx x) with e | e
              · exact e
              · have h1 := (W.old x (by omega)).1
                have h2 := T.le x
                omega
            exact (hnewv x (hmS x hxm).2 hz).2.2 y hy hyM
        have hyS : y ∈ t1.stk := (W.ti.stk y).2 ⟨hyp, hyv⟩
        rw [hsv] at hyS
        rcases List.mem_append.1 hyS with h | h
        · have h3 := hstv y h
          have : t1.low v ≤ t.idx y := by
            rcases List.mem_cons.1 hxm with rfl | h2
            · exact W.l2 y hy h
            · exact hs3 x h2 y hy h
          have hyo : t1.idx y = t.idx y := (W.old y (by omega)).1
          omega
        · exact hyn h
      · rw [pout x hxm] at hpx
        exact W.ti.cls x hx hpx y hy hyM hyp
    have hsegz : ∀ x ∈ seg, t.idx x = 0 := fun x h => by
      have hgt := (List.pairwise_cons.1 (List.pairwise_append.1 hord2).2.1).1 x h
      rcases Nat.eq_zero_or_pos (t.idx x) with e | e
      · exact e
      · have h1 := (W.old x (by omega)).1
        have h2 := T.le x
        omega
    have hvx : ∀ x, x ∈ v :: seg → RM A M v x := fun x hx => by
      rcases List.mem_cons.1 hx with rfl | h
      · exact .refl
      · exact (hnewv x (hmS x hx).2 (hsegz x h)).2.1
    have hxv : ∀ x, x ∈ v :: seg → RM A M x v := fun x hx => by
      rcases List.mem_cons.1 hx with rfl | h
      · exact .refl
      · obtain ⟨y, hy, hr1⟩ := hs2 x h
        rcases List.mem_append.1 hy with r | r
        · exfalso
          have := RM.closed (D := fun z => M z ∧ (if z ∈ v :: seg then q else t1.pof z) ≠ id) (fun a ha b hb hbM => ⟨hbM, hcls a ha.1 ha.2 b hb hbM⟩) hr1 ⟨hmM x hx, by rw [pin x hx]; exact hq⟩
          have hys : t1.pof y = id := ((W.ti.stk y).1 (by rw [hsv]; simp [r])).1
          exact this.2 (by rw [pout y (hdis y r)]; exact hys)
        · obtain rfl := List.mem_singleton.1 r; exact hr1
    have hqge : ∀ x, x ∈ v :: seg → ∀ y, y ∈ v :: seg → x ≠ y → 0 ≤ q := fun x hx y hy hne => by
      rw [← hqq, if_pos]
      · omega
      · unfold isPart
        rw [Bool.or_eq_true]
        refine .inl (decide_eq_true ?_)
        cases seg with
        | nil =>
          obtain rfl := List.mem_singleton.1 hx
          obtain rfl := List.mem_singleton.1 hy
          exact absurd rfl hne
        | cons a r => simp
    have hqnp : 0 ≤ q → q = (t1.np : Int) ∧ isPart A v (v :: seg) = true := fun h => by
      rw [← hqq] at h ⊢
      split at h
      · rename_i hp; exact ⟨if_pos hp, hp⟩
      · omega
    have hold : ∀ u, M u → u ∉ v :: seg → (if u ∈ v :: seg then q else t1.pof u) ≠ id → t1.pof u ≠ id := fun u _ hn h => by rw [pout u hn] at h; exact h
    have hne : ∀ x y, x ∈ v :: seg → y ∉ v :: seg → M y → t1.pof y ≠ id → 0 ≤ q → q ≠ t1.pof y := fun x y _ _ hyM hyp h0q e => by
      obtain ⟨h1, _⟩ := hqnp h0q
      rcases W.ti.rng y hyM hyp with r | r <;> omega
    refine ⟨⟨fun u => ?_, ?_, W.ti.le, fun u => ?_, fun u hu => ?_, fun u hu => ?_, W.ti.vis, fun u hm hp => ?_, hcls, ?_, fun u hm hp => ?_, fun x y hx hy hpx hpy he h0q => ?_, fun x y hx hy hpx h1 h2 => ?_, fun x hx hpx => ?_, W.ti.rb, ?_⟩, ⟨⟨[], by simp, fun x hx => absurd hx (by simp), fun x hx => absurd hx (by simp), .inl (by show t1.low v = t1.idx v; simpa using hlo)⟩, hv0, by show t.rch < t1.idx v; omega, W.old, hnewv, by show t.rch ≤ t1.rch; omega⟩⟩
    · show u ∈ t.stk ↔ (if u ∈ v :: seg then q else t1.pof u) = id ∧ t1.idx u ≠ 0
      constructor
      · intro h
        rw [pout u (hdis u h)]
        exact (W.ti.stk u).1 (by rw [hsv]; simp [h])
      · rintro ⟨h1, h2⟩
        obtain ⟨h3, h4⟩ := pid u h1
        have := (W.ti.stk u).2 ⟨h4, h2⟩
        rw [hsv] at this
        rcases List.mem_append.1 this with r | r
        · exact r
        · exact absurd r h3
    · exact (List.pairwise_append.1 hord2).1
    · show (if u ∈ v :: seg then false else t1.ons u) = true ↔ u ∈ t.stk
      by_cases h : u ∈ v :: seg
      · rw [if_pos h]
        exact ⟨fun e => (by cases e), fun e => absurd h (hdis u e)⟩
      · rw [if_neg h, W.ti.ons u, hsv]
        constructor
        · intro e
          rcases List.mem_append.1 e with r | r
          · exact r
          · exact absurd r h
        · exact fun e => List.mem_append_left _ e
    · exact W.ti.sub u (pid u hu).2
    · have hn : u ∉ v :: seg := fun h => hu (hmM u h)
      show (if u ∈ v :: seg then q else t1.pof u) = p0 u
      rw [pout u hn]; exact W.ti.out u hu
    · by_cases h : u ∈ v :: seg
      · exact (hmS u h).2
      · exact W.ti.dvis u hm (hold u hm h hp)
    · show np0 ≤ if isPart A v (v :: seg) then t1.np + 1 else t1.np
      have := W.ti.npl
      split <;> omega
    · show (if u ∈ v :: seg then q else t1.pof u) = -1 ∨ ((np0 : Int) ≤ (if u ∈ v :: seg then q else t1.pof u) ∧ (if u ∈ v :: seg then q else t1.pof u) < ((if isPart A v (v :: seg) then t1.np + 1 else t1.np : Nat) : Int))
      have hnp := W.ti.npl
      by_cases h : u ∈ v :: seg
      · rw [pin u h, ← hqq]
        split
        · exact .inr ⟨by omega, by omega⟩
        · exact .inl rfl
      · rw [pout u h]
        rcases W.ti.rng u hm (hold u hm h hp) with r | r
        · exact .inl r
        · refine .inr ⟨r.1, ?_⟩
          split <;> omega
    · have he' : (if x ∈ v :: seg then q else t1.pof x) = (if y ∈ v :: seg then q else t1.pof y) := he
      have h0q' : 0 ≤ (if x ∈ v :: seg then q else t1.pof x) := h0q
      by_cases h : x ∈ v :: seg
      · by_cases h2 : y ∈ v :: seg
        · exact (hxv x h).trans (hvx y h2)
        · rw [pin x h, pout y h2] at he'
          rw [pin x h] at h0q'
          exact absurd he' (hne x y h h2 hy (hold y hy h2 hpy) h0q')
      · by_cases h2 : y ∈ v :: seg
        · rw [pout x h, pin y h2] at he'
          rw [pout x h, he'] at h0q'
          exact absurd he'.symm (hne y x h2 h hx (hold x hx h hpx) h0q')
        · rw [pout x h, pout y h2] at he'
          rw [pout x h] at h0q'
          exact W.ti.eqv x y hx hy (hold x hx h hpx) (hold y hy h2 hpy) he' h0q'
    · show (if y ∈ v :: seg then q else t1.pof y) = (if x ∈ v :: seg then q else t1.pof x) ∧ (x ≠ y → 0 ≤ (if x ∈ v :: seg then q else t1.pof x))
      by_cases h : x ∈ v :: seg
      · have h3 : y ∈ v :: seg := by
          by_cases h4 : y ∈ v :: seg
          · exact h4
          · exfalso
            have hy2 := RM.closed (D := fun z => M z ∧ (if z ∈ v :: seg then q else t1.pof z) ≠ id) (fun a ha b hb hbM => ⟨hbM, hcls a ha.1 ha.2 b hb hbM⟩) h1 ⟨hx, hpx⟩
            have hx2 := RM.closed (D := fun z => M z ∧ t1.pof z ≠ id) (fun a ha b hb hbM => ⟨hbM, W.ti.cls a ha.1 ha.2 b hb hbM⟩) h2 ⟨hy, hold y hy h4 hy2.2⟩
            exact hx2.2 (hmS x h).1
        rw [pin x h, pin y h3]
        exact ⟨rfl, fun hne => hqge x h y h3 hne⟩
      · have hx1 := hold x hx h hpx
        have hy1 := RM.closed (D := fun z => M z ∧ t1.pof z ≠ id) (fun a ha b hb hbM => ⟨hbM, W.ti.cls a ha.1 ha.2 b hb hbM⟩) h1 ⟨hx, hx1⟩
        have h3 : y ∉ v :: seg := fun h4 => hy1.2 (hmS y h4).1
        rw [pout x h, pout y h3]
        exact W.ti.max x y hx hy hx1 h1 h2
    · show (0 ≤ (if x ∈ v :: seg then q else t1.pof x) → x ∈ A x ∨ ∃ y, y ≠ x ∧ M y ∧ (if y ∈ v :: seg then q else t1.pof y) = (if x ∈ v :: seg then q else t1.pof x)) ∧ (x ∈ A x → 0 ≤ (if x ∈ v :: seg then q else t1.pof x))
      by_cases h : x ∈ v :: seg
      · rw [pin x h]
        refine ⟨fun h0q => ?_, fun hxx => ?_⟩
        · obtain ⟨_, hp⟩ := hqnp h0q
          unfold isPart at hp
          rw [Bool.or_eq_true, decide_eq_true_eq] at hp
          by_cases hlen : 1 < (v :: seg).length
          · refine .inr ?_
            cases hsg : seg with
            | nil => rw [hsg] at hlen; simp at hlen
            | cons a r =>
              have ha : a ∈ v :: seg := by rw [hsg]; simp
              by_cases e : x = v
              · refine ⟨a, fun e2 => hvs (by rw [← e, ← e2, hsg]; simp), hmM a ha, ?_⟩
                rw [← hsg]; exact pin a ha
              · refine ⟨v, fun e2 => e e2.symm, hvM, ?_⟩
                rw [← hsg]; exact pin v (by simp)
          · rcases hp with r | r
            · exact absurd r hlen
            · refine .inl ?_
              have : seg = [] := by
                cases seg with
                | nil => rfl
                | cons a r => simp at hlen
              rw [this] at h
              obtain rfl := List.mem_singleton.1 h
              simpa using r
        · rw [← hqq, if_pos]
          · omega
          · unfold isPart
            rw [Bool.or_eq_true, decide_eq_true_eq]
            cases hsg : seg with
            | nil =>
              rw [hsg] at h
              obtain rfl := List.mem_singleton.1 h
              exact .inr (by simpa using hxx)
            | cons a r => exact .inl (by simp)
      · have hx1 := hold x hx h hpx
        rw [pout x h]
        refine ⟨fun h0q => ?_, (W.ti.lop x hx hx1).2⟩
        rcases (W.ti.lop x hx hx1).1 h0q with r | ⟨y, h1, h2, h3⟩
        · exact .inl r
        · have hyn : y ∉ v :: seg := fun h4 => by
            have := (hmS y h4).1
            rw [h3] at this
            exact hx1 this
          exact .inr ⟨y, h1, h2, by rw [pout y hyn]; exact h3⟩
    · have h := filter_drop (fun u => decide (t1.pof u = id)) v (List.range n) List.nodup_range
      rw [if_pos ⟨List.mem_range.2 hvn, decide_eq_true (hmS v (by simp)).1⟩] at h
      have hle : cA n id { t1 with stk := t.stk, np := if isPart A v (v :: seg) then t1.np + 1 else t1.np, ons := fun u => if u ∈ v :: seg then false else t1.ons u, pof := fun u => if u ∈ v :: seg then q else t1.pof u } ≤ ((List.range n).filter (fun u => decide (t1.pof u = id) && !(u == v))).length := by
        refine filter_le _ fun u hu => ?_
        have hu' := of_decide_eq_true hu
        obtain ⟨h1, h2⟩ := pid u hu'
        have : u ≠ v := fun e => h1 (by rw [e]; simp)
        simp [h2, this]
      have hnb := W.ti.nb
      have hdf : cA n id t1 = ((List.range n).filter (fun u => decide (t1.pof u = id))).length := rfl
      refine Nat.le_trans (Nat.add_le_add_left hle _) ?_
      show (if isPart A v (v :: seg) then t1.np + 1 else t1.np) + _ ≤ K
      split <;> omega

theorem walk_loop {v : Nat} {t : Tj} {f : Nat} (h0 : t.idx v = 0) (hvM : M v)
    (ih : ∀ w t1, TI A M id np0 p0 n K t1 → (∀ u, t.idx u ≠ 0 → t1.idx u ≠ 0) → t1.idx v ≠ 0 → t1.pof w = id → t1.idx w = 0 → TI A M id np0 p0 n K (walkP A id f w t1) ∧ WP A M w t1 (walkP A id f w t1)) :
    ∀ suf pre t1, A v = pre ++ suf → WL A M id np0 p0 n K v t pre t1 → WL A M id np0 p0 n K v t (A v) (suf.foldl (walkS A id f v) t1) := by
  intro suf
  induction suf with
  | nil => intro pre t1 he W; rw [List.append_nil] at he; rw [he]; exact W
  | cons w suf ihs =>
    intro pre t1 he W
    rw [List.foldl_cons]
    refine ihs (pre ++ [w]) _ (by rw [he]; simp) (wl_step W h0 hvM (by rw [he]; simp) fun h1 h2 => ih w t1 W.ti (fun u hu => by rw [(W.old u hu).1]; exact hu) (by rw [W.iv]; omega) h1 h2)

/-- Fuel that is enough for walk. -/
def WFuel (M : Nat → Prop) (f : Nat) (t : Tj) : Prop := ∃ L : List Nat, L.length ≤ f ∧ ∀ u, M u → t.idx u = 0 → u ∈ L
theorem wfuel_rec {f v : Nat} {t t1 : Tj} (h : WFuel M (f + 1) t) (hv : M v) (h0 : t.idx v = 0) (h1 : ∀ u, t.idx u ≠ 0 → t1.idx u ≠ 0) (h2 : t1.idx v ≠ 0) : WFuel M f t1 := by
  obtain ⟨L, hl, hm⟩ := h
  have hvL : v ∈ L := hm v hv h0
  refine ⟨L.erase v, ?_, fun u hu hz => ?_⟩
  · rw [List.length_erase_of_mem hvL]; omega
  · have hz0 : t.idx u = 0 := by
      rcases Nat.eq_zero_or_pos (t.idx u) with e | e
      · exact e
      · exact absurd hz (h1 u (by omega))
    exact (List.mem_erase_of_ne fun e => h2 (by rw [← e]; exact hz)).2 (hm u hu hz0)

/-- TARJAN's walk. -/
theorem walk_spec (hMn : ∀ u, M u → u < n) (hid : id < (np0 : Int)) (hid0 : 0 ≤ id) : ∀ f v t, TI A M id np0 p0 n K t → WFuel M f t → t.pof v = id → t.idx v = 0 → TI A M id np0 p0 n K (walkP A id f v t) ∧ WP A M v t (walkP A id f v t) := by
  intro f
  induction f with
  | zero =>
    intro v t T ⟨L, hl, hm⟩ hp h0
    have := List.length_pos_of_mem (hm v (T.sub v hp) h0)
    omega
  | succ f ih =>
    intro v t T hf hp h0
    have hvM := T.sub v hp
    rw [walkP_succ]
    exact walk_exit (hMn v hvM) T (walk_loop h0 hvM (fun w t1 T1 h1 h2 h3 h4 => ih w t1 T1 (wfuel_rec hf hvM h0 h1 h2) h3 h4) (A v) [] (walk0 v t) rfl (wl_start (hMn v hvM) T hp h0)) h0 hvM hid hid0
end
end Go.Proofs.Ybulkcyk
