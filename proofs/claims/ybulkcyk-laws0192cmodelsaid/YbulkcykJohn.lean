/-
  Johnson's search against the plain walk: the same cycles in the same order. No Go in sight.
-/
import Derived.Test.YbulkcykSpec
namespace Go.Proofs.Ybulkcyk

theorem foldl_fix {α β : Type} (f : α → β → α) (l : List β) (a : α) (h : ∀ x ∈ l, f a x = a) : l.foldl f a = a := by
  induction l with
  | nil => rfl
  | cons x r ih =>
    rw [List.foldl_cons, h x (by simp)]
    exact ih fun y hy => h y (by simp [hy])

/-- From v to st through vertices above st that are not in X (v itself may be anything). -/
inductive To (A : Nat → List Nat) (st : Nat) (X : Nat → Prop) : Nat → Prop
  | base {v : Nat} : st ∈ A v → To A st X v
  | step {v w : Nat} : w ∈ A v → st < w → ¬ X w → To A st X w → To A st X v
theorem To.mono {A : Nat → List Nat} {st : Nat} {X Y : Nat → Prop} (h : ∀ u, Y u → X u) {v : Nat} (t : To A st X v) : To A st Y v := by
  induction t with
  | base hb => exact .base hb
  | step h1 h2 h3 _ ih => exact .step h1 h2 (fun hy => h3 (h _ hy)) ih

theorem dfs_noTo (A : Nat → List Nat) (lim : Int) (st : Nat) : ∀ f path v o, ¬ To A st (fun u => u ∈ path ++ [v]) v → dfsP A lim st f path v o = o := by
  intro f
  induction f with
  | zero => intro path v o _; rfl
  | succ f ih =>
    intro path v o h
    rw [dfsP_succ]
    refine foldl_fix _ _ _ fun w hw => ?_
    unfold dfsS
    split
    · rfl
    · split
      · rename_i hws
        subst hws
        exact absurd (To.base hw) h
      · split
        · rename_i hc
          refine ih _ _ _ fun ht => h ?_
          refine .step hw hc.1 (by simpa using hc.2) (ht.mono fun u hu => ?_)
          exact List.mem_append_left _ hu
        · rfl

theorem dfsS_skip {A : Nat → List Nat} {lim : Int} {st f : Nat} {path : List Nat} {v w : Nat} (o : Out) (h : w ≠ st) (h2 : st < w → w ∉ path ++ [v] → ¬ To A st (fun u => u ∈ path ++ [v]) w) : dfsS A lim st f path v o w = o := by
  unfold dfsS
  rw [if_neg h]
  split
  · rfl
  · split
    · rename_i hc
      have hc2 : w ∉ path ++ [v] := by simpa using hc.2
      refine dfs_noTo _ _ _ _ _ _ _ fun ht => h2 hc.1 hc2 (ht.mono fun u hu => List.mem_append_left _ hu)
    · rfl

/-! unblock -/
structure Unb (v : Nat) (j j' : Jn) : Prop where
  opn : j'.opn = j.opn
  v0 : j'.blk v = false
  sub : ∀ u, j'.blk u = true → j.blk u = true
  same : ∀ w, j'.blk w = true → j'.bls w = j.bls w
  far : ∀ w, j.blk w = false → w ≠ v → j'.bls w = j.bls w
  nil : ∀ w, j'.blk w = false → (j.blk w = true ∨ w = v) → j'.bls w = [] ∧ ∀ u ∈ j.bls w, j'.blk u = false
  subl : ∀ w u, u ∈ j'.bls w → u ∈ j.bls w
  bnd : ∀ P : Nat → Prop, P v → (∀ w, P w → ∀ u ∈ j.bls w, P u) → ∀ u, j.blk u = true → j'.blk u = false → u = v ∨ P u
/-- Behind some rounds of unblock's loop; rest is still to come. -/
structure UnbL (v : Nat) (j : Jn) (rest : List Nat) (jc : Jn) : Prop where
  opn : jc.opn = j.opn
  v0 : jc.blk v = false
  bv : jc.bls v = rest.reverse
  sub : ∀ u, jc.blk u = true → j.blk u = true
  same : ∀ w, jc.blk w = true → jc.bls w = j.bls w
  far : ∀ w, j.blk w = false → w ≠ v → jc.bls w = j.bls w
  nil : ∀ w, jc.blk w = false → j.blk w = true → w ≠ v → jc.bls w = [] ∧ ∀ u ∈ j.bls w, jc.blk u = false
  subl : ∀ w u, u ∈ jc.bls w → u ∈ j.bls w
  bnd : ∀ P : Nat → Prop, P v → (∀ w, P w → ∀ u ∈ j.bls w, P u) → ∀ u, j.blk u = true → jc.blk u = false → u = v ∨ P u
  done : ∀ u ∈ j.bls v, u ∉ rest → jc.blk u = false

theorem bool_false_of {b : Bool} (h : b = true → False) : b = false := by cases b <;> simp_all

theorem unb_step {f v : Nat} {j : Jn} {rest : List Nat} {w : Nat} {jc : Jn} (h : UnbL v j (w :: rest) jc)
    (ih : jc.blk w = true → Unb w { jc with bls := upd jc.bls v (jc.bls v).dropLast } (unbP f w { jc with bls := upd jc.bls v (jc.bls v).dropLast })) : UnbL v j rest (unbS f v jc w) := by
  have hd : (jc.bls v).dropLast = rest.reverse := by rw [h.bv]; simp
  have hwv : w ∈ j.bls v := h.subl v w (by rw [h.bv]; simp)
  have hbl : ∀ x, x ≠ v → upd jc.bls v rest.reverse x = jc.bls x := fun x hx => upd_other _ _ hx
  have hsl : ∀ x u, u ∈ upd jc.bls v rest.reverse x → u ∈ j.bls x := fun x u hu => by
    by_cases e : x = v
    · subst e
      rw [upd_same] at hu
      exact h.subl x u (by rw [h.bv]; simp at hu ⊢; exact .inl hu)
    · rw [hbl x e] at hu
      exact h.subl x u hu
  unfold unbS
  rw [hd] at ih ⊢
  by_cases hb : jc.blk w = true
  · rw [if_pos hb]
    have U := ih hb
    generalize unbP f w { jc with bls := upd jc.bls v rest.reverse } = k at *
    have hne : v ≠ w := fun e => by subst e; rw [h.v0] at hb; cases hb
    have hkv : k.blk v = false := bool_false_of fun e => by have := U.sub v e; simp [h.v0] at this
    refine ⟨U.opn.trans h.opn, hkv, ?_, fun u hu => h.sub u (U.sub u hu), fun x hx => ?_, fun x hx hxv => ?_, fun x hx hjx hxv => ?_, fun x u hu => hsl x u (U.subl x u hu), fun P hP hcl u hu hku => ?_, fun u hu hr => ?_⟩
    · rw [U.far v h.v0 hne]; exact upd_same _ _ _
    · have hxv : x ≠ v := fun e => by subst e; rw [hkv] at hx; cases hx
      rw [U.same x hx]
      exact (hbl x hxv).trans (h.same x (U.sub x hx))
    · have hc : jc.blk x = false := bool_false_of fun e => by have := h.sub x e; rw [hx] at this; cases this
      have hxw : x ≠ w := fun e => by subst e; rw [hc] at hb; cases hb
      rw [U.far x hc hxw]
      exact (hbl x hxv).trans (h.far x hx hxv)
    · by_cases hc : jc.blk x = true
      · obtain ⟨n1, n2⟩ := U.nil x hx (.inl hc)
        refine ⟨n1, fun u hu => n2 u ?_⟩
        show u ∈ upd jc.bls v rest.reverse x
        rw [hbl x hxv, h.same x hc]; exact hu
      · have hc' : jc.blk x = false := by simpa using hc
        have hxw : x ≠ w := fun e => by subst e; exact hc hb
        obtain ⟨n1, n2⟩ := h.nil x hc' hjx hxv
        refine ⟨?_, fun u hu => bool_false_of fun e => by have := U.sub u e; rw [n2 u hu] at this; cases this⟩
        rw [U.far x hc' hxw]
        exact (hbl x hxv).trans n1
    · by_cases hc : jc.blk u = true
      · have := U.bnd P (hcl v hP w hwv) (fun x hx y hy => hcl x hx y (hsl x y hy)) u hc hku
        rcases this with rfl | q
        · exact .inr (hcl v hP u hwv)
        · exact .inr q
      · exact h.bnd P hP hcl u hu (by simpa using hc)
    · by_cases e : u = w
      · subst e; exact U.v0
      · have := h.done u hu (by simp [e, hr])
        exact bool_false_of fun e2 => by have := U.sub u e2; simp_all
  · rw [if_neg hb]
    refine ⟨h.opn, h.v0, upd_same _ _ _, h.sub, fun x hx => ?_, fun x hx hxv => (hbl x hxv).trans (h.far x hx hxv), fun x hx hjx hxv => ?_, hsl, h.bnd, fun u hu hr => ?_⟩
    · have hxv : x ≠ v := fun e => by subst e; have := h.v0; simp_all
      exact (hbl x hxv).trans (h.same x hx)
    · obtain ⟨n1, n2⟩ := h.nil x hx hjx hxv
      exact ⟨(hbl x hxv).trans n1, n2⟩
    · by_cases e : u = w
      · subst e; simpa using hb
      · exact h.done u hu (by simp [e, hr])

theorem unb_start (v : Nat) (j : Jn) : UnbL v j (j.bls v).reverse { j with blk := upd j.blk v false } := by
  refine ⟨rfl, upd_same _ _ _, by simp, fun u hu => ?_, fun _ _ => rfl, fun _ _ _ => rfl, fun w hw hj hv => ?_, fun _ _ h => h, fun P hP hcl u hu hc => ?_, fun u hu hr => absurd (by simpa using hu) hr⟩
  · by_cases e : u = v
    · subst e; have hu : upd j.blk u false u = true := hu; rw [upd_same] at hu; cases hu
    · have hu : upd j.blk v false u = true := hu; rwa [upd_other _ _ e] at hu
  · have hw : upd j.blk v false w = false := hw; rw [upd_other _ _ hv, hj] at hw; cases hw
  · by_cases e : u = v
    · exact .inl e
    · have hc : upd j.blk v false u = false := hc; rw [upd_other _ _ e, hu] at hc; cases hc

/-- Fuel that is enough. -/
def Fuel (f v : Nat) (j : Jn) : Prop := ∃ L : List Nat, L.length < f ∧ ∀ u, j.blk u = true → u ≠ v → u ∈ L

theorem unb_rec {f v : Nat} {j : Jn} {rest : List Nat} {w : Nat} {jc : Jn} (hf : Fuel (f + 1) v j) (h : UnbL v j (w :: rest) jc) (hb : jc.blk w = true) : Fuel f w { jc with bls := upd jc.bls v (jc.bls v).dropLast } := by
  obtain ⟨L, hL, hm⟩ := hf
  have hwv : w ≠ v := fun e => by subst e; have := h.v0; simp_all
  have hw : w ∈ L := hm w (h.sub w hb) hwv
  refine ⟨L.erase w, ?_, fun u hu hne => ?_⟩
  · rw [List.length_erase_of_mem hw]
    have : 0 < L.length := List.length_pos_of_mem hw
    omega
  · have huv : u ≠ v := fun e => by subst e; have h0 := h.v0; have : jc.blk u = true := hu; simp_all
    exact (List.mem_erase_of_ne hne).2 (hm u (h.sub u hu) huv)

theorem unb_loop {f v : Nat} {j : Jn} (hf : Fuel (f + 1) v j) (ih : ∀ w k, Fuel f w k → Unb w k (unbP f w k)) : ∀ rest jc, UnbL v j rest jc → UnbL v j [] (rest.foldl (unbS f v) jc) := by
  intro rest
  induction rest with
  | nil => intro jc h; exact h
  | cons w r ihr =>
    intro jc h
    rw [List.foldl_cons]
    exact ihr _ (unb_step h fun hb => ih _ _ (unb_rec hf h hb))

theorem unb_end {v : Nat} {j k : Jn} (h : UnbL v j [] k) : Unb v j k := by
  refine ⟨h.opn, h.v0, h.sub, h.same, h.far, fun w hw hor => ?_, h.subl, h.bnd⟩
  by_cases e : w = v
  · subst e
    exact ⟨by rw [h.bv]; rfl, fun u hu => h.done u hu (by simp)⟩
  · rcases hor with q | q
    · exact h.nil w hw q e
    · exact absurd q e

theorem unb_spec : ∀ f v j, Fuel f v j → Unb v j (unbP f v j) := by
  intro f
  induction f with
  | zero => intro v j ⟨L, h, _⟩; omega
  | succ f ih =>
    intro v j hf
    rw [unbP_succ]
    exact unb_end (unb_loop hf ih _ _ (unb_start v j))

/-! circuit -/
theorem addAll_spec (inP : Nat → Bool) (v : Nat) : ∀ ws j, (addAll inP v ws j).blk = j.blk ∧ (addAll inP v ws j).opn = j.opn ∧ ∀ w u, u ∈ (addAll inP v ws j).bls w ↔ (u ∈ j.bls w ∨ (u = v ∧ w ∈ ws ∧ inP w = true)) := by
  intro ws
  induction ws with
  | nil => intro j; exact ⟨rfl, rfl, fun w u => by simp [addAll]⟩
  | cons x r ih =>
    intro j
    have e : addAll inP v (x :: r) j = addAll inP v r (addS inP v j x) := rfl
    rw [e]
    obtain ⟨h1, h2, h3⟩ := ih (addS inP v j x)
    have hs : (addS inP v j x).blk = j.blk ∧ (addS inP v j x).opn = j.opn ∧ ∀ w u, u ∈ (addS inP v j x).bls w ↔ (u ∈ j.bls w ∨ (u = v ∧ w = x ∧ inP w = true)) := by
      unfold addS
      split
      · rename_i hc
        rw [Bool.and_eq_true] at hc
        refine ⟨rfl, rfl, fun w u => ?_⟩
        by_cases e : w = x
        · subst e
          show u ∈ upd j.bls w (j.bls w ++ [v]) w ↔ _
          rw [upd_same, List.mem_append, List.mem_singleton]
          simp [hc.1]
        · show u ∈ upd j.bls x (j.bls x ++ [v]) w ↔ _
          rw [upd_other _ _ e]
          simp [e]
      · rename_i hc
        refine ⟨rfl, rfl, fun w u => ⟨.inl, ?_⟩⟩
        rintro (q | ⟨rfl, rfl, q⟩)
        · exact q
        · simp only [q, Bool.true_and, Bool.not_eq_true', Bool.not_eq_false] at hc
          simpa using hc
    refine ⟨h1.trans hs.1, h2.trans hs.2.1, fun w u => ?_⟩
    rw [h3, hs.2.2]
    constructor
    · rintro ((q | ⟨a, b, d⟩) | ⟨a, b, d⟩)
      · exact .inl q
      · exact .inr ⟨a, by simp [b], d⟩
      · exact .inr ⟨a, by simp [b], d⟩
    · rintro (q | ⟨a, b, d⟩)
      · exact .inl (.inl q)
      · rcases List.mem_cons.1 b with b | b
        · exact .inl (.inr ⟨a, b, d⟩)
        · exact .inr ⟨a, b, d⟩

structure JH (c : Jc) : Prop where
  lt : ∀ v, ∀ w ∈ c.A v, w < c.n
  srt : ∀ v, (c.A v).Pairwise (· < ·)
  stP : c.inP c.st = true
  inn : ∀ w, c.inP w = true → c.st ≤ w ∧ w < c.n
  cyc : ∀ v w, c.inP v = true → w ∈ c.A v → c.st < w → To c.A c.st (fun _ => False) w → c.inP w = true
  tos : ∀ u, c.tos u = true ↔ (c.inP u = true ∧ c.st ∈ c.A u)
def cntO (c : Jc) (path : List Nat) : Nat := ((List.range c.n).filter (fun u => c.tos u && !path.contains u)).length
structure JI (c : Jc) (path : List Nat) (j : Jn) : Prop where
  pb : ∀ u ∈ path, j.blk u = true
  bI : ∀ u, j.blk u = true → c.inP u = true
  h1 : ∀ w, j.blk w = false → j.bls w = []
  h2 : ∀ u, j.blk u = true → u ∉ path → ∀ w ∈ c.A u, c.inP w = true → w ≠ c.st ∧ j.blk w = true ∧ u ∈ j.bls w
  op : j.opn = (cntO c path : Int)

theorem filter_drop (p : Nat → Bool) (v : Nat) : ∀ l : List Nat, l.Nodup → (l.filter p).length = (l.filter (fun u => p u && !(u == v))).length + (if v ∈ l ∧ p v = true then 1 else 0) := by
  intro l
  induction l with
  | nil => intro _; rfl
  | cons a r ih =>
    intro hn
    have ih' := ih (List.nodup_cons.1 hn).2
    have har := (List.nodup_cons.1 hn).1
    by_cases e : a = v
    · subst e
      have : (if a ∈ r ∧ p a = true then 1 else 0) = 0 := by rw [if_neg]; exact fun h => har h.1
      rw [this] at ih'
      by_cases hp : p a = true
      · simp [hp, ih']
      · simp [hp, ih']
    · have e2 : (v ∈ a :: r ∧ p v = true) ↔ (v ∈ r ∧ p v = true) := by simp [Ne.symm e]
      by_cases hp : p a = true
      · have : (fun u => p u && !(u == v)) a = true := by simp [hp, e]
        rw [List.filter_cons_of_pos hp, List.filter_cons_of_pos (p := fun u => p u && !(u == v)) this]
        simp only [List.length_cons, e2]
        omega
      · have : ¬ (fun u => p u && !(u == v)) a = true := by simp [hp]
        rw [List.filter_cons_of_neg hp, List.filter_cons_of_neg (p := fun u => p u && !(u == v)) this]
        simp only [e2]
        exact ih'
theorem cntO_snoc (c : Jc) (path : List Nat) (v : Nat) (hv : v < c.n) (hp : v ∉ path) : (cntO c (path ++ [v]) : Int) = if c.tos v then (cntO c path : Int) - 1 else (cntO c path : Int) := by
  have h := filter_drop (fun u => c.tos u && !path.contains u) v (List.range c.n) List.nodup_range
  have e : (fun u => c.tos u && !(path ++ [v]).contains u) = (fun u => (c.tos u && !path.contains u) && !(u == v)) := by
    funext u
    simp only [List.contains_eq_mem, List.mem_append, List.mem_singleton]
    by_cases h1 : u ∈ path <;> by_cases h2 : u = v <;> simp [h1, h2]
  unfold cntO
  rw [e]
  have hc : path.contains v = false := by simpa using hp
  have hr : v ∈ List.range c.n := List.mem_range.2 hv
  simp only [hr, hc, Bool.not_false, Bool.and_true, true_and] at h
  split <;> simp_all

theorem noTo_blk {c : Jc} (H : JH c) {path : List Nat} {j : Jn} (J : JI c path j) : ∀ u, To c.A c.st (fun x => x ∈ path) u → j.blk u = true → u ∉ path → False := by
  intro u t
  induction t with
  | base hb =>
    intro h1 h2
    exact (J.h2 _ h1 h2 c.st hb H.stP).1 rfl
  | @step v w h1 h2 h3 ht ih =>
    intro h4 h5
    have hw : c.inP w = true := H.cyc v w (J.bI _ h4) h1 h2 (ht.mono fun _ h => h.elim)
    exact ih (J.h2 v h4 h5 w h1 hw).2.1 h3
theorem noTo_open {c : Jc} (H : JH c) {path : List Nat} (h0 : cntO c path = 0) : ∀ u, To c.A c.st (fun x => x ∈ path) u → c.inP u = true → u ∉ path → False := by
  intro u t
  induction t with
  | @base v hb =>
    intro h1 h2
    have ht : c.tos v = true := (H.tos v).2 ⟨h1, hb⟩
    unfold cntO at h0
    have := List.eq_nil_of_length_eq_zero h0
    have hm : v ∈ (List.range c.n).filter (fun u => c.tos u && !path.contains u) := List.mem_filter.2 ⟨List.mem_range.2 (H.inn v h1).2, by simp [ht, h2]⟩
    rw [this] at hm
    cases hm
  | @step v w h1 h2 h3 ht ih =>
    intro h4 _
    exact ih (H.cyc v w h4 h1 h2 (ht.mono fun _ h => h.elim)) h3

structure Post (c : Jc) (path : List Nat) (v : Nat) (j : Jn) (r : Rs) : Prop where
  ji : JI c path r.j
  mono : ∀ w, j.blk w = true → r.j.blk w = true
  lm : ∀ w, j.blk w = true → ∀ u ∈ j.bls w, u ∈ r.j.bls w
  kk : ∀ w u, u ∈ r.j.bls w → u ∈ j.bls w ∨ j.blk u = false
  fb : r.found = false → r.j.blk v = true
/-- Behind some rounds of circuit's loop. -/
structure CL (c : Jc) (path : List Nat) (v : Nat) (j : Jn) (pre : List Nat) (r : Rs) : Prop where
  ji : JI c (path ++ [v]) r.j
  mono : ∀ w, j.blk w = true → r.j.blk w = true
  lm : ∀ w, j.blk w = true → ∀ u ∈ j.bls w, u ∈ r.j.bls w
  kk : ∀ w u, u ∈ r.j.bls w → u ∈ j.bls w ∨ (j.blk u = false ∧ u ≠ v)
  nf : r.found = false → ∀ w ∈ pre, c.inP w = true → w ≠ c.st ∧ r.j.blk w = true
  fs : c.st ∈ pre → r.found = true

theorem cl_start {c : Jc} (H : JH c) {path : List Nat} {v : Nat} {j : Jn} (J : JI c path j) (o : Out) (hp : v ∉ path) (hv : c.inP v = true) (hb : j.blk v = false) : CL c path v j [] ⟨false, circ0 c v j, o⟩ := by
  have hbl : ∀ u, u ≠ v → (circ0 c v j).blk u = j.blk u := fun u hu => upd_other _ _ hu
  have hvv : (circ0 c v j).blk v = true := upd_same _ _ _
  have mono : ∀ w, j.blk w = true → (circ0 c v j).blk w = true := fun w hw => by
    by_cases e : w = v
    · subst e; exact hvv
    · rw [hbl w e]; exact hw
  refine ⟨⟨fun u hu => ?_, fun u hu => ?_, fun w hw => ?_, fun u hu hnp w hw hwp => ?_, ?_⟩, mono, fun _ _ _ h => h, fun w u h => .inl h, fun _ w hw => absurd hw (by simp), fun h => absurd h (by simp)⟩
  · rcases List.mem_append.1 hu with q | q
    · exact mono u (J.pb u q)
    · obtain rfl := List.mem_singleton.1 q; exact hvv
  · by_cases e : u = v
    · subst e; exact hv
    · exact J.bI u (by rw [← hbl u e]; exact hu)
  · have e : w ≠ v := fun e => by subst e; rw [hvv] at hw; cases hw
    exact J.h1 w (by rw [← hbl w e]; exact hw)
  · have e : u ≠ v := fun e => hnp (by simp [e])
    have := J.h2 u (by rw [← hbl u e]; exact hu) (fun h => hnp (List.mem_append_left _ h)) w hw hwp
    exact ⟨this.1, mono w this.2.1, this.2.2⟩
  · rw [cntO_snoc c path v (H.inn v hv).2 hp, ← J.op]
    rfl

theorem circ_step {c : Jc} (H : JH c) {f : Nat} {path : List Nat} {v : Nat} {j : Jn} {o : Out} (hp : v ∉ path) (hv : c.inP v = true) (hc0 : 0 < cntO c path)
    (ih : ∀ w k (q : Out), JI c (path ++ [v]) k → w ∉ path ++ [v] → c.inP w = true → k.blk w = false → q.more = false → 0 < cntO c (path ++ [v]) →
      (circP c f (path ++ [v]) w k q).o = dfsP c.A c.lim c.st f (path ++ [v]) w q ∧ ((circP c f (path ++ [v]) w k q).o.more = false → Post c (path ++ [v]) w k (circP c f (path ++ [v]) w k q))) :
    ∀ w suf pre r, c.A v = pre ++ w :: suf → r.o = pre.foldl (dfsS c.A c.lim c.st f path v) o → (r.o.more = false → CL c path v j pre r) →
      (circS c f path v r w).o = (pre ++ [w]).foldl (dfsS c.A c.lim c.st f path v) o ∧ ((circS c f path v r w).o.more = false → CL c path v j (pre ++ [w]) (circS c f path v r w)) := by
  intro w suf pre r he ho hC
  have hwA : w ∈ c.A v := by rw [he]; simp
  refine ⟨?_, ?_⟩
  all_goals rw [show (circS c f path v r w) = (if r.o.more then r else if !c.inP w then r else if w = c.st then ⟨if (emit c.lim r.o (path ++ [v])).more then r.found else true, r.j, emit c.lim r.o (path ++ [v])⟩ else if r.j.opn = 0 then r else if r.j.blk w then r else ⟨(circP c f (path ++ [v]) w r.j r.o).found || r.found, (circP c f (path ++ [v]) w r.j r.o).j, (circP c f (path ++ [v]) w r.j r.o).o⟩) from rfl]
  all_goals try rw [List.foldl_append, List.foldl_cons, List.foldl_nil, ← ho]
  all_goals by_cases hm : r.o.more = true
  · rw [if_pos hm]; unfold dfsS; rw [if_pos hm]
  · rw [if_neg hm]
    have C := hC (by simpa using hm)
    by_cases hin : c.inP w = true
    · rw [if_neg (by simp [hin])]
      by_cases hs : w = c.st
      · rw [if_pos hs]; unfold dfsS; rw [if_neg hm, if_pos hs]
      · rw [if_neg hs]
        have hgt : c.st < w := by have := (H.inn w hin).1; omega
        by_cases h0 : r.j.opn = 0
        · rw [if_pos h0]
          have hz : cntO c (path ++ [v]) = 0 := by have := C.ji.op; omega
          exact (dfsS_skip r.o hs fun _ h2 ht => noTo_open H hz w ht hin h2).symm
        · rw [if_neg h0]
          by_cases hb : r.j.blk w = true
          · rw [if_pos hb]
            exact (dfsS_skip r.o hs fun _ h2 ht => noTo_blk H C.ji w ht hb h2).symm
          · rw [if_neg hb]
            have hnp : w ∉ path ++ [v] := fun h => hb (C.ji.pb w h)
            have := (ih w r.j r.o C.ji hnp hin (by simpa using hb) (by simpa using hm) (by have := C.ji.op; omega)).1
            show (circP c f (path ++ [v]) w r.j r.o).o = _
            rw [this]
            unfold dfsS
            rw [if_neg hm, if_neg hs, if_pos ⟨hgt, by simpa using hnp⟩]
    · rw [if_pos (by simp [hin])]
      have hs : w ≠ c.st := fun e => hin (by rw [e]; exact H.stP)
      exact (dfsS_skip r.o hs fun h1 _ ht => hin (H.cyc v w hv hwA h1 (ht.mono fun _ h => h.elim))).symm
  · rw [if_pos hm]
    exact fun h => absurd hm (by simp [h])
  · rw [if_neg hm]
    have C := hC (by simpa using hm)
    by_cases hin : c.inP w = true
    · rw [if_neg (by simp [hin])]
      by_cases hs : w = c.st
      · rw [if_pos hs]
        intro hmo
        have hmo' : (emit c.lim r.o (path ++ [v])).more = false := hmo
        refine ⟨C.ji, C.mono, C.lm, C.kk, fun hf => ?_, fun _ => ?_⟩
        · simp [hmo'] at hf
        · simp [hmo']
      · rw [if_neg hs]
        have hgt : c.st < w := by have := (H.inn w hin).1; omega
        have hsp : c.st ∈ pre ++ [w] → c.st ∈ pre := fun h => by
          rcases List.mem_append.1 h with q | q
          · exact q
          · exact absurd (List.mem_singleton.1 q).symm hs
        by_cases h0 : r.j.opn = 0
        · rw [if_pos h0]
          intro _
          have hz : (cntO c (path ++ [v]) : Int) = 0 := by have := C.ji.op; omega
          rw [cntO_snoc c path v (H.inn v hv).2 hp] at hz
          have htv : c.tos v = true := by
            by_cases e : c.tos v = true
            · exact e
            · rw [if_neg e] at hz; omega
          have hst : c.st ∈ c.A v := ((H.tos v).1 htv).2
          have hpre : c.st ∈ pre := by
            rw [he] at hst
            rcases List.mem_append.1 hst with q | q
            · exact q
            · rcases List.mem_cons.1 q with q | q
              · exact absurd q.symm hs
              · have hsr := H.srt v
                rw [he] at hsr
                have := (List.pairwise_cons.1 (List.pairwise_append.1 hsr).2.1).1 c.st q
                omega
          have hfd := C.fs hpre
          exact ⟨C.ji, C.mono, C.lm, C.kk, fun h => (by rw [hfd] at h; cases h), fun _ => hfd⟩
        · rw [if_neg h0]
          by_cases hb : r.j.blk w = true
          · rw [if_pos hb]
            intro _
            refine ⟨C.ji, C.mono, C.lm, C.kk, fun h x hx hxp => ?_, fun h => C.fs (hsp h)⟩
            rcases List.mem_append.1 hx with q | q
            · exact C.nf h x q hxp
            · obtain rfl := List.mem_singleton.1 q; exact ⟨hs, hb⟩
          · rw [if_neg hb]
            intro hmo
            have hnp : w ∉ path ++ [v] := fun h => hb (C.ji.pb w h)
            have P := (ih w r.j r.o C.ji hnp hin (by simpa using hb) (by simpa using hm) (by have := C.ji.op; omega)).2 hmo
            refine ⟨P.ji, fun x hx => P.mono x (C.mono x hx), fun x hx u hu => P.lm x (C.mono x hx) u (C.lm x hx u hu), fun x u hu => ?_, fun h x hx hxp => ?_, fun h => ?_⟩
            · rcases P.kk x u hu with q | q
              · exact C.kk x u q
              · refine .inr ⟨bool_false_of fun e => (by have := C.mono u e; rw [q] at this; cases this), fun e => ?_⟩
                subst e
                have := C.ji.pb u (by simp)
                rw [q] at this; cases this
            · have h' : ((circP c f (path ++ [v]) w r.j r.o).found || r.found) = false := h
              rw [Bool.or_eq_false_iff] at h'
              rcases List.mem_append.1 hx with q | q
              · have := C.nf h'.2 x q hxp
                exact ⟨this.1, P.mono x this.2⟩
              · obtain rfl := List.mem_singleton.1 q
                exact ⟨hs, P.fb h'.1⟩
            · show ((circP c f (path ++ [v]) w r.j r.o).found || r.found) = true
              rw [C.fs (hsp h), Bool.or_true]
    · rw [if_pos (by simp [hin])]
      intro _
      refine ⟨C.ji, C.mono, C.lm, C.kk, fun h x hx hxp => ?_, fun h => ?_⟩
      · rcases List.mem_append.1 hx with q | q
        · exact C.nf h x q hxp
        · obtain rfl := List.mem_singleton.1 q; exact absurd hxp hin
      · rcases List.mem_append.1 h with q | q
        · exact C.fs q
        · rw [← List.mem_singleton.1 q] at hin; exact absurd H.stP hin

theorem circ_loop {c : Jc} (H : JH c) {f : Nat} {path : List Nat} {v : Nat} {j : Jn} {o : Out} (hp : v ∉ path) (hv : c.inP v = true) (hc0 : 0 < cntO c path)
    (ih : ∀ w k (q : Out), JI c (path ++ [v]) k → w ∉ path ++ [v] → c.inP w = true → k.blk w = false → q.more = false → 0 < cntO c (path ++ [v]) →
      (circP c f (path ++ [v]) w k q).o = dfsP c.A c.lim c.st f (path ++ [v]) w q ∧ ((circP c f (path ++ [v]) w k q).o.more = false → Post c (path ++ [v]) w k (circP c f (path ++ [v]) w k q))) :
    ∀ suf pre r, c.A v = pre ++ suf → r.o = pre.foldl (dfsS c.A c.lim c.st f path v) o → (r.o.more = false → CL c path v j pre r) →
      (suf.foldl (circS c f path v) r).o = (c.A v).foldl (dfsS c.A c.lim c.st f path v) o ∧ ((suf.foldl (circS c f path v) r).o.more = false → CL c path v j (c.A v) (suf.foldl (circS c f path v) r)) := by
  intro suf
  induction suf with
  | nil =>
    intro pre r he ho hC
    rw [List.append_nil] at he
    rw [he]
    exact ⟨ho, hC⟩
  | cons w suf ihs =>
    intro pre r he ho hC
    rw [List.foldl_cons]
    obtain ⟨h1, h2⟩ := circ_step H hp hv hc0 ih w suf pre r he ho hC
    exact ihs (pre ++ [w]) (circS c f path v r w) (by rw [he]; simp) h1 h2

theorem circ_exit {c : Jc} (H : JH c) {path : List Nat} {v : Nat} {j : Jn} (J : JI c path j) (hp : v ∉ path) (hv : c.inP v = true) (hb : j.blk v = false) {r : Rs} (C : CL c path v j (c.A v) r) :
    Post c path v j ⟨r.found, circX c v (circE c v r), r.o⟩ := by
  have hop : ∀ k : Jn, k.opn = r.j.opn → (circX c v k).opn = (cntO c path : Int) := fun k hk => by
    have h1 := C.ji.op
    rw [cntO_snoc c path v (H.inn v hv).2 hp] at h1
    show (if c.tos v then k.opn + 1 else k.opn) = _
    rw [hk, h1]
    split <;> omega
  have hvp : r.j.blk v = true := C.ji.pb v (by simp)
  by_cases hfd : r.found = true
  · have U : Unb v r.j (unbP (c.n + 1) v r.j) := unb_spec _ _ _ ⟨List.range c.n, by simp, fun u hu _ => List.mem_range.2 (H.inn u (C.ji.bI u hu)).2⟩
    have e : circE c v r = unbP (c.n + 1) v r.j := if_pos hfd
    rw [e]
    generalize unbP (c.n + 1) v r.j = k at *
    have mono : ∀ w, j.blk w = true → k.blk w = true := fun w hw => by
      cases hk : k.blk w
      · exfalso
        have := U.bnd (fun x => j.blk x = false) hb (fun x hx u hu => by
          rcases C.kk x u hu with q | q
          · rw [J.h1 x hx] at q; cases q
          · exact q.1) w (C.mono w hw) hk
        rcases this with rfl | q
        · rw [hb] at hw; cases hw
        · rw [hw] at q; cases q
      · rfl
    refine ⟨⟨fun u hu => mono u (J.pb u hu), fun u hu => C.ji.bI u (U.sub u hu), fun w hw => ?_, fun u hu hnp w hw hwp => ?_, hop k U.opn⟩, mono, fun w hw u hu => ?_, fun w u hu => ?_, fun h => by rw [hfd] at h; cases h⟩
    · by_cases q : r.j.blk w = true ∨ w = v
      · exact (U.nil w hw q).1
      · have q1 : r.j.blk w = false := bool_false_of fun e => q (.inl e)
        show k.bls w = []
        rw [U.far w q1 fun e => q (.inr e)]
        exact C.ji.h1 w q1
    · have huv : u ≠ v := fun e => by subst e; have h0 := U.v0; have : k.blk u = true := hu; rw [h0] at this; cases this
      have h := C.ji.h2 u (U.sub u hu) (by simp [hnp, huv]) w hw hwp
      have hkw : k.blk w = true := by
        cases hk : k.blk w
        · have := (U.nil w hk (.inl h.2.1)).2 u h.2.2
          have h3 : k.blk u = true := hu
          rw [this] at h3; cases h3
        · rfl
      refine ⟨h.1, hkw, ?_⟩
      show u ∈ k.bls w
      rw [U.same w hkw]; exact h.2.2
    · show u ∈ k.bls w
      rw [U.same w (mono w hw)]
      exact C.lm w hw u hu
    · rcases C.kk w u (U.subl w u hu) with q | q
      · exact .inl q
      · exact .inr q.1
  · have hff : r.found = false := by simpa using hfd
    have e : circE c v r = addAll c.inP v (c.A v) r.j := if_neg hfd
    rw [e]
    obtain ⟨a1, a2, a3⟩ := addAll_spec c.inP v (c.A v) r.j
    generalize addAll c.inP v (c.A v) r.j = k at *
    have hkb : ∀ u, (circX c v k).blk u = r.j.blk u := fun u => by show k.blk u = _; rw [a1]
    have nf := C.nf hff
    refine ⟨⟨fun u hu => ?_, fun u hu => ?_, fun w hw => ?_, fun u hu hnp w hw hwp => ?_, hop k a2⟩, fun w hw => ?_, fun w hw u hu => (a3 w u).2 (.inl (C.lm w hw u hu)), fun w u hu => ?_, fun _ => ?_⟩
    · rw [hkb]; exact C.ji.pb u (List.mem_append_left _ hu)
    · rw [hkb] at hu; exact C.ji.bI u hu
    · rw [hkb] at hw
      refine List.eq_nil_iff_forall_not_mem.2 fun u hu => ?_
      rcases (a3 w u).1 hu with q | ⟨_, q, q2⟩
      · rw [C.ji.h1 w hw] at q; cases q
      · have := (nf w q q2).2
        rw [hw] at this; cases this
    · rw [hkb] at hu
      rw [hkb]
      by_cases e : u = v
      · subst e
        exact ⟨(nf w hw hwp).1, (nf w hw hwp).2, (a3 w u).2 (.inr ⟨rfl, hw, hwp⟩)⟩
      · have h := C.ji.h2 u hu (by simp [hnp, e]) w hw hwp
        exact ⟨h.1, h.2.1, (a3 w u).2 (.inl h.2.2)⟩
    · rw [hkb]; exact C.mono w hw
    · rcases (a3 w u).1 hu with q | ⟨rfl, _, _⟩
      · rcases C.kk w u q with q | q
        · exact .inl q
        · exact .inr q.1
      · exact .inr hb
    · rw [hkb]; exact hvp

theorem sub_len : ∀ (l L : List Nat), l.Nodup → (∀ u ∈ l, u ∈ L) → l.length ≤ L.length := by
  intro l
  induction l with
  | nil => intro L _ _; simp
  | cons a r ih =>
    intro L hn hs
    have ha : a ∈ L := hs a (by simp)
    have := ih (L.erase a) (List.nodup_cons.1 hn).2 (fun u hu => (List.mem_erase_of_ne (fun e => (List.nodup_cons.1 hn).1 (by rw [← e]; exact hu))).2 (hs u (by simp [hu])))
    rw [List.length_erase_of_mem ha] at this
    have : 0 < L.length := List.length_pos_of_mem ha
    simp
    omega
theorem nodup_len {l : List Nat} {n : Nat} (h : l.Nodup) (hl : ∀ u ∈ l, u < n) : l.length ≤ n := by
  have := sub_len l (List.range n) h fun u hu => List.mem_range.2 (hl u hu)
  simpa using this

/-- JOHNSON: circuit records what the plain walk records. -/
theorem john {c : Jc} (H : JH c) : ∀ f path v j o, JI c path j → path.Nodup → (∀ u ∈ path, u < c.n) → v ∉ path → c.inP v = true → j.blk v = false → f + path.length = c.n + 1 → 0 < cntO c path → o.more = false →
    (circP c f path v j o).o = dfsP c.A c.lim c.st f path v o ∧ ((circP c f path v j o).o.more = false → Post c path v j (circP c f path v j o)) := by
  intro f
  induction f with
  | zero =>
    intro path v j o _ hnd hlt hp hv _ hf
    have := nodup_len hnd hlt
    omega
  | succ f ih =>
    intro path v j o J hnd hlt hp hv hb hf hc0 hm
    rw [circP_succ, dfsP_succ]
    have hnd' : (path ++ [v]).Nodup := List.nodup_append.2 ⟨hnd, by simp, fun a ha b hb' => by obtain rfl := List.mem_singleton.1 hb'; exact fun e => hp (e ▸ ha)⟩
    have hlt' : ∀ u ∈ path ++ [v], u < c.n := fun u hu => by
      rcases List.mem_append.1 hu with q | q
      · exact hlt u q
      · obtain rfl := List.mem_singleton.1 q; exact (H.inn u hv).2
    have L := circ_loop H (f := f) (j := j) (o := o) hp hv hc0 (fun w k q Jk hw hwp hkb hq h0 => ih (path ++ [v]) w k q Jk hnd' hlt' hw hwp hkb (by simp; omega) h0 hq) (c.A v) [] ⟨false, circ0 c v j, o⟩ rfl rfl (fun _ => cl_start H J o hp hv hb)
    refine ⟨L.1, fun hmo => circ_exit H J hp hv hb (L.2 hmo)⟩

end Go.Proofs.Ybulkcyk
