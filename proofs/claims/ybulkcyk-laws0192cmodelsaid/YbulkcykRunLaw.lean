/-
  THE PLAIN LAW of LawS0192CModel: run records what the plain walk records. No Go in sight.
-/
import Derived.Test.YbulkcykParts
namespace Go.Proofs.Ybulkcyk

theorem To.rm {A : Nat → List Nat} {st : Nat} {X : Nat → Prop} {v : Nat} (t : To A st X v) : RM A (fun z => st ≤ z) v st := by
  induction t with
  | base h => exact .one h (Nat.le_refl _)
  | step h1 h2 _ _ ih => exact .step h1 (Nat.le_of_lt h2) ih
theorem RM.last {A : Nat → List Nat} {M : Nat → Prop} {x y : Nat} (r : RM A M x y) : x ≠ y → M x → ∃ u, M u ∧ y ∈ A u := by
  induction r with
  | refl => intro h; exact absurd rfl h
  | @step x z y a b c ih =>
    intro _ hx
    by_cases e : z = y
    · exact ⟨x, hx, by rw [← e]; exact a⟩
    · exact ih e b
theorem RM.first {A : Nat → List Nat} {M : Nat → Prop} {x y : Nat} (r : RM A M x y) (h : x ≠ y) : ∃ z, z ∈ A x ∧ M z ∧ RM A M z y := by
  cases r with
  | refl => exact absurd rfl h
  | step a b c => exact ⟨_, a, b, c⟩

section
variable {A R : Nat → List Nat} {n : Nat} {lim : Int}

theorem jh_of (G : GH A R n) {st : Nat} {s : Ss} (P : PI A n st (-1) s) (hst : st < n) (h0 : 0 ≤ s.tj.pof st) : JH (jcOf A R n lim st s.tj.pof) := by
  refine ⟨G.lt, G.srt, by simp [jcOf], fun w hw => ?_, fun v w hv hw h1 ht => ?_, fun u => ?_⟩
  · have hw' : s.tj.pof w = s.tj.pof st := by simpa [jcOf] using hw
    refine ⟨?_, ?_⟩
    · rcases Nat.lt_or_ge w st with q | q
      · have := P.lo w q; omega
      · exact q
    · rcases Nat.lt_or_ge w n with q | q
      · exact q
      · have := P.pn w q; omega
  · have hv' : s.tj.pof v = s.tj.pof st := by simpa [jcOf] using hv
    have hge : ∀ z, s.tj.pof z = s.tj.pof st → st ≤ z := fun z hz => by
      rcases Nat.lt_or_ge z st with q | q
      · have := P.lo z q; omega
      · exact q
    have r1 : RM A (fun z => st ≤ z) st v := (P.sc st v h0 (by omega) hv').mono hge
    have r2 : RM A (fun z => st ≤ z) st w := r1.trans (.one hw (Nat.le_of_lt h1))
    have r3 : RM A (fun z => st ≤ z) w st := ht.rm
    have hwn : w < n := G.lt v w hw
    have := (P.mx st w (Nat.le_refl _) (Nat.le_of_lt h1) hst hwn r2 r3 (.inl (by show st ≠ w; have : st < w := h1; omega))).1
    simpa [jcOf] using this
  · simp only [jcOf, Bool.and_eq_true, List.contains_eq_mem, decide_eq_true_eq]
    rw [G.radm st u]
    constructor
    · rintro ⟨⟨_, h2⟩, h3⟩; exact ⟨h3, h2⟩
    · rintro ⟨h3, h2⟩
      refine ⟨⟨?_, h2⟩, h3⟩
      rcases Nat.lt_or_ge u n with q | q
      · exact q
      · have := P.pn u q; omega

theorem cnt_start (G : GH A R n) {st : Nat} {s : Ss} : (cntO (jcOf A R n lim st s.tj.pof) [] : Int) = (((R st).filter (fun u => decide (s.tj.pof u = s.tj.pof st))).length : Int) := by
  unfold cntO
  rw [G.rad st, List.filter_filter]
  congr 2
  refine List.filter_congr fun u hu => ?_
  simp only [jcOf, List.contains_nil, Bool.not_false, Bool.and_true]
  have hu' : u < n := List.mem_range.1 hu
  have : (R st).contains u = (A u).contains st := by
    rw [Bool.eq_iff_iff, List.contains_eq_mem, List.contains_eq_mem, decide_eq_true_eq, decide_eq_true_eq, G.radm st u]
    exact ⟨fun h => h.2, fun h => ⟨hu', h⟩⟩
  rw [this, Bool.and_comm]

/-- A start that is in no part: nothing. -/
theorem none_start (G : GH A R n) {st : Nat} {s : Ss} (P : PI A n st (-1) s) (hst : st < n) (h0 : s.tj.pof st < 0) (f : Nat) (o : Out) : dfsP A lim st f [] st o = o := by
  refine dfs_noTo _ _ _ _ _ _ _ fun ht => ?_
  have key : 0 ≤ s.tj.pof st := by
    cases ht with
    | base h => exact (P.mx st st (Nat.le_refl _) (Nat.le_refl _) hst hst .refl .refl (.inr h)).2
    | @step _ w h1 h2 _ h4 => exact (P.mx st w (Nat.le_refl _) (Nat.le_of_lt h2) hst (G.lt st w h1) (.one h1 (Nat.le_of_lt h2)) h4.rm (.inl (by omega))).2
  omega

/-- A start's own search. -/
theorem look_law (G : GH A R n) {st : Nat} {s : Ss} (P : PI A n st (-1) s) (hst : st < n) (h0 : 0 ≤ s.tj.pof st) (hm : s.out.more = false) :
    (lookP A R n lim st s).out = dfsP A lim st (n + 1) [] st s.out ∧ ((lookP A R n lim st s).out.more = false → JR (lookP A R n lim st s).jn) ∧
    JI (jcOf A R n lim st s.tj.pof) [] { s.jn with opn := (((R st).filter (fun u => decide (s.tj.pof u = s.tj.pof st))).length : Int) } ∧ 0 < cntO (jcOf A R n lim st s.tj.pof) [] := by
  have H := jh_of (lim := lim) G P hst h0
  have hcnt := cnt_start (A := A) (R := R) (n := n) (lim := lim) G (st := st) (s := s)
  have hJ : JI (jcOf A R n lim st s.tj.pof) [] { s.jn with opn := (((R st).filter (fun u => decide (s.tj.pof u = s.tj.pof st))).length : Int) } := by
    refine ⟨fun u hu => absurd hu (by simp), fun u hu => ?_, fun w _ => P.jr.bls w, fun u hu => ?_, hcnt.symm⟩
    · have : s.jn.blk u = true := hu; rw [P.jr.blk u] at this; cases this
    · have : s.jn.blk u = true := hu; rw [P.jr.blk u] at this; cases this
  have hc0 : 0 < cntO (jcOf A R n lim st s.tj.pof) [] := by
    have hu : ∃ u, s.tj.pof u = s.tj.pof st ∧ st ∈ A u := by
      rcases P.lp st h0 (by omega) with q | ⟨y, q1, q2⟩
      · exact ⟨st, rfl, q⟩
      · have := P.sc y st (by omega) (by omega) q2.symm
        obtain ⟨u, u1, u2⟩ := this.last q1 rfl
        exact ⟨u, u1.trans q2, u2⟩
    obtain ⟨u, u1, u2⟩ := hu
    unfold cntO
    refine List.length_pos_of_mem (a := u) (List.mem_filter.2 ⟨List.mem_range.2 ?_, ?_⟩)
    · show u < n
      rcases Nat.lt_or_ge u n with q | q
      · exact q
      · have := P.pn u q; omega
    · have : (jcOf A R n lim st s.tj.pof).tos u = true := (H.tos u).2 ⟨by simpa [jcOf] using u1, u2⟩
      simp [this]
  have J := john H (n + 1) [] st _ s.out hJ (by simp) (fun u hu => absurd hu (by simp)) (by simp) H.stP (P.jr.blk st) (by simp [jcOf]) hc0 hm
  refine ⟨J.1, fun hmo => ?_, hJ, hc0⟩
  have Q := (J.2 hmo).ji
  show JR { (circP (jcOf A R n lim st s.tj.pof) (n + 1) [] st { s.jn with opn := (((R st).filter (fun u => decide (s.tj.pof u = s.tj.pof st))).length : Int) } s.out).j with opn := 0 }
  generalize (circP (jcOf A R n lim st s.tj.pof) (n + 1) [] st { s.jn with opn := (((R st).filter (fun u => decide (s.tj.pof u = s.tj.pof st))).length : Int) } s.out).j = j at *
  have key : ∀ x y, RM A (fun z => s.tj.pof z = s.tj.pof st) x y → y = st → j.blk x = true → x = st := by
    intro x y r
    induction r with
    | refl => intro h _; exact h
    | @step x z y a b _ ih =>
      intro hy hb
      have := Q.h2 x hb (by simp) z a (by simpa [jcOf] using b)
      exact absurd (ih hy this.2.1) this.1
  have hbst : j.blk st = false := bool_false_of fun hb => by
    rcases P.lp st h0 (by omega) with q | ⟨y, q1, q2⟩
    · exact (Q.h2 st hb (by simp) st q H.stP).1 rfl
    · obtain ⟨z, z1, z2, z3⟩ := (P.sc st y h0 (by omega) q2).first (Ne.symm q1)
      have h3 := Q.h2 st hb (by simp) z z1 (by simpa [jcOf] using z2)
      have := key z st (by
        have := P.sc z st (by rw [z2]; exact h0) (by rw [z2]; omega) z2.symm
        rw [z2] at this; exact this) rfl h3.2.1
      exact h3.1 this
  have hblk : ∀ u, j.blk u = false := fun u => bool_false_of fun hb => by
    have hu : s.tj.pof u = s.tj.pof st := by simpa [jcOf] using Q.bI u hb
    have := key u st (by
      have := P.sc u st (by rw [hu]; exact h0) (by rw [hu]; omega) hu.symm
      rw [hu] at this; exact this) rfl hb
    rw [this, hbst] at hb; cases hb
  exact ⟨hblk, fun u => Q.h1 u (hblk u), rfl⟩

theorem mem_leave {pof : Nat → Int} {st p : Nat} (hlo : ∀ u, u < st → pof u = -1) (hst : st < n) (hp : pof st = (p : Int)) :
    (List.range n).filter (fun u => decide (pof u = (p : Int))) = st :: (List.range n).filter (fun u => decide (upd pof st (-1) u = (p : Int))) := by
  obtain ⟨k, rfl⟩ : ∃ k, n = st + (k + 1) := ⟨n - st - 1, by omega⟩
  rw [List.range_add, List.filter_append, List.filter_append]
  have e1 : (List.range st).filter (fun u => decide (pof u = (p : Int))) = [] := List.filter_eq_nil_iff.2 fun u hu => by
    have := hlo u (List.mem_range.1 hu)
    simp only [decide_eq_true_eq]; omega
  have e2 : (List.range st).filter (fun u => decide (upd pof st (-1) u = (p : Int))) = [] := List.filter_eq_nil_iff.2 fun u hu => by
    have h1 := List.mem_range.1 hu
    have := hlo u h1
    rw [upd_other _ _ (by omega)]
    simp only [decide_eq_true_eq]; omega
  rw [e1, e2, List.nil_append, List.nil_append, List.range_succ_eq_map, List.map_cons, List.filter_cons_of_pos (by simpa using hp), List.filter_cons_of_neg (by simp [upd])]
  congr 1
  refine List.filter_congr fun u hu => ?_
  obtain ⟨a, ha, rfl⟩ := List.mem_map.1 hu
  obtain ⟨b, _, rfl⟩ := List.mem_map.1 ha
  rw [upd_other _ _ (by omega)]

theorem leave0_PI {st : Nat} {s : Ss} (P : PI A n st (-1) s) (hst : st < n) (p : Nat) (hp : s.tj.pof st = (p : Int)) : PI A n (st + 1) (p : Int) (leave0 st p s) := by
  have hpo : ∀ u, u ≠ st → (leave0 st p s).tj.pof u = s.tj.pof u := fun u hu => upd_other _ _ hu
  have hps : (leave0 st p s).tj.pof st = -1 := upd_same _ _ _
  have hpn : p < s.tj.np := by rcases P.rg st with q | q <;> omega
  have hge : ∀ x, 0 ≤ (leave0 st p s).tj.pof x → x ≠ st := fun x h e => by rw [e, hps] at h; omega
  refine ⟨P.rest.1 |> fun _ => ⟨P.rest.idx, P.rest.stk, P.rest.ons⟩, P.jr, fun u hu => ?_, fun u hu => ?_, fun u => ?_, fun q hq => ?_, fun q hq => ?_, fun x y h0 hx hxy => ?_, fun x y h1 h2 h3 h4 h5 h6 h7 => ?_, fun x h0 hx => ?_, fun q v hq hv hl hw => ?_⟩
  · rw [hpo u (by omega)]; exact P.pn u hu
  · by_cases e : u = st
    · rw [e]; exact hps
    · rw [hpo u e]; exact P.lo u (by omega)
  · by_cases e : u = st
    · rw [e]; exact .inl hps
    · rw [hpo u e]; exact P.rg u
  · show upd s.mem p (s.mem p).tail q = _
    by_cases e : q = p
    · subst e
      rw [upd_same, P.mem q hq, mem_leave P.lo hst hp]
      rfl
    · rw [upd_other _ _ e, P.mem q hq]
      refine List.filter_congr fun u _ => ?_
      by_cases e2 : u = st
      · rw [e2, hps, hp]
        rw [decide_eq_false (by omega), decide_eq_false (by omega)]
      · rw [hpo u e2]
  · have hq' : s.tj.np ≤ q := hq
    have := P.fr q hq'
    refine ⟨?_, this.2⟩
    show upd s.mem p (s.mem p).tail q = _
    rw [upd_other _ _ (by omega)]; exact this.1
  · have hxs := hge x h0
    have hys := hge y (by omega)
    rw [hpo x hxs] at h0 hx hxy ⊢
    rw [hpo y hys] at hxy
    refine (P.sc x y h0 (by omega) hxy).mono fun z hz => ?_
    have : z ≠ st := fun e => by rw [e, hp] at hz; exact hx hz.symm
    rw [hpo z this]; exact hz
  · have hxs : x ≠ st := by omega
    have hys : y ≠ st := by omega
    rw [hpo x hxs, hpo y hys]
    exact P.mx x y (by omega) (by omega) h3 h4 (h5.mono fun z hz => by omega) (h6.mono fun z hz => by omega) h7
  · have hxs := hge x h0
    rw [hpo x hxs] at h0 hx ⊢
    rcases P.lp x h0 (by omega) with q | ⟨y, q1, q2⟩
    · exact .inl q
    · have : y ≠ st := fun e => by rw [e, hp] at q2; exact hx q2.symm
      exact .inr ⟨y, q1, by rw [hpo y this]; exact q2⟩
  · have hvs := hge v (by omega)
    have hne : ∀ u, (leave0 st p s).tj.pof u = (q : Int) → s.tj.pof u = (q : Int) := fun u hu => by rw [← hpo u (hge u (by omega))]; exact hu
    have hne2 : ∀ u, s.tj.pof u = (q : Int) → (leave0 st p s).tj.pof u = (q : Int) := fun u hu => by
      have : u ≠ st := fun e => by rw [e, hp] at hu; exact hq hu.symm
      rw [hpo u this]; exact hu
    obtain ⟨w, w1, w2⟩ := hw
    obtain ⟨⟨a, a1, a2, a3⟩, ⟨b, b1, b2, b3⟩⟩ := P.ls q v (by omega) (hne v hv) hl ⟨w, w1, hne w w2⟩
    exact ⟨⟨a, a1, hne2 a a2, a3⟩, ⟨b, b1, hne2 b b2, b3⟩⟩

theorem keep_PI {st : Nat} {s : Ss} (P : PI A n st (-1) s) (hst : st < n) (p : Nat) (hp : s.tj.pof st = (p : Int)) (hB : leaveB p (leave0 st p s) = false) : PI A n (st + 1) (-1) (leave0 st p s) := by
  have Q := leave0_PI P hst p hp
  have hpn : p < s.tj.np := by rcases P.rg st with q | q <;> omega
  have hpo : ∀ u, u ≠ st → (leave0 st p s).tj.pof u = s.tj.pof u := fun u hu => upd_other _ _ hu
  have hmp := Q.mem p hpn
  have hmem : ∀ u, u ∈ (leave0 st p s).mem p ↔ (leave0 st p s).tj.pof u = (p : Int) := fun u => by rw [hmp]; exact mem_filter_pof Q.pn p u
  have hsrt : ((leave0 st p s).mem p).Pairwise (· < ·) := by rw [hmp]; exact range_filter_sorted _ _
  unfold leaveB at hB
  rw [Bool.or_eq_false_iff, decide_eq_false_iff_not, decide_eq_false_iff_not] at hB
  obtain ⟨hB1, hB2⟩ := hB
  have hloo : (leave0 st p s).loo p = s.loo p := rfl
  have hcl : ∀ u, (leave0 st p s).tj.pof u = (p : Int) → s.tj.pof u = (p : Int) ∧ u ≠ st := fun u hu => by
    have : u ≠ st := fun e => by rw [e, show (leave0 st p s).tj.pof st = -1 from upd_same _ _ _] at hu; omega
    exact ⟨by rw [← hpo u this]; exact hu, this⟩
  have hup : ∀ v w, (leave0 st p s).tj.pof v = (p : Int) → v < w → s.tj.pof w = (p : Int) → (leave0 st p s).tj.pof w = (p : Int) := fun v w hv hvw hw => by
    have h1 := (hcl v hv)
    have : st ≤ v := by
      rcases Nat.lt_or_ge v st with q | q
      · have := P.lo v q; omega
      · exact q
    rw [hpo w (by omega)]; exact hw
  -- every member but the top one is tied
  have htie : ∀ v, (leave0 st p s).tj.pof v = (p : Int) → (∃ w, v < w ∧ (leave0 st p s).tj.pof w = (p : Int)) → (∃ w, v < w ∧ (leave0 st p s).tj.pof w = (p : Int) ∧ w ∈ A v) ∧ (∃ w, v < w ∧ (leave0 st p s).tj.pof w = (p : Int) ∧ v ∈ A w) := by
    intro v hv ⟨w, w1, w2⟩
    have hvl : s.loo p < (v : Int) := by
      cases hm : (leave0 st p s).mem p with
      | nil => rw [hm] at hB1; simp at hB1
      | cons a r =>
        rw [hm] at hB2
        have hva : a ≤ v := by
          have := (hmem v).2 hv
          rw [hm] at this hsrt
          rcases List.mem_cons.1 this with q | q
          · omega
          · have := (List.pairwise_cons.1 hsrt).1 v q; omega
        simp only [List.headD_cons] at hB2
        rw [hloo] at hB2
        omega
    obtain ⟨⟨a, a1, a2, a3⟩, ⟨b, b1, b2, b3⟩⟩ := P.ls p v (by omega) (hcl v hv).1 hvl ⟨w, w1, (hcl w w2).1⟩
    exact ⟨⟨a, a1, hup v a hv a1 a2, a3⟩, ⟨b, b1, hup v b hv b1 b2, b3⟩⟩
  have hlt : ∀ u, (leave0 st p s).tj.pof u = (p : Int) → u < n := fun u hu => by
    rcases Nat.lt_or_ge u n with q | q
    · exact q
    · have := Q.pn u q; omega
  -- all are tied to the top
  have htop : ∀ k x top, n - x ≤ k → (leave0 st p s).tj.pof x = (p : Int) → (leave0 st p s).tj.pof top = (p : Int) → (∀ w, (leave0 st p s).tj.pof w = (p : Int) → w ≤ top) →
      RM A (fun z => (leave0 st p s).tj.pof z = (p : Int)) x top ∧ RM A (fun z => (leave0 st p s).tj.pof z = (p : Int)) top x := by
    intro k
    induction k with
    | zero => intro x top h hx _ _; have := hlt x hx; omega
    | succ k ih =>
      intro x top h hx ht hmax
      by_cases e : x = top
      · subst e; exact ⟨.refl, .refl⟩
      · have := hmax x hx
        obtain ⟨⟨a, a1, a2, a3⟩, ⟨b, b1, b2, b3⟩⟩ := htie x hx ⟨top, by omega, ht⟩
        have h1 := (ih a top (by omega) a2 ht hmax).1
        have h2 := (ih b top (by omega) b2 ht hmax).2
        exact ⟨.step a3 a2 h1, h2.trans (.one b3 hx)⟩
  have hex : ∃ top, (leave0 st p s).tj.pof top = (p : Int) ∧ ∀ w, (leave0 st p s).tj.pof w = (p : Int) → w ≤ top := by
    have hne : (leave0 st p s).mem p ≠ [] := by intro e; rw [e] at hB1; simp at hB1
    refine ⟨((leave0 st p s).mem p).getLast hne, (hmem _).1 (List.getLast_mem hne), fun w hw => ?_⟩
    have hw' := (hmem w).2 hw
    have hms := List.dropLast_concat_getLast hne
    rw [← hms] at hw' hsrt
    rcases List.mem_append.1 hw' with q | q
    · have := (List.pairwise_append.1 hsrt).2.2 w q (((leave0 st p s).mem p).getLast hne) (by simp); omega
    · have := List.mem_singleton.1 q; omega
  obtain ⟨top, ht1, ht2⟩ := hex
  refine ⟨Q.rest, Q.jr, Q.pn, Q.lo, Q.rg, Q.mem, Q.fr, fun x y h0 _ hxy => ?_, Q.mx, fun x h0 _ => ?_, fun q v _ hv hl hw => ?_⟩
  · by_cases e : (leave0 st p s).tj.pof x = (p : Int)
    · have h1 := (htop n x top (by omega) e ht1 ht2).1
      have h2 := (htop n y top (by omega) (hxy.trans e) ht1 ht2).2
      rw [e]
      exact h1.trans h2
    · exact Q.sc x y h0 e hxy
  · by_cases e : (leave0 st p s).tj.pof x = (p : Int)
    · refine .inr ?_
      have hx := (hmem x).2 e
      cases hm : (leave0 st p s).mem p with
      | nil => rw [hm] at hx; cases hx
      | cons a r =>
        cases r with
        | nil => rw [hm] at hB1; simp at hB1
        | cons b r =>
          rw [hm] at hsrt
          have hab : a < b := (List.pairwise_cons.1 hsrt).1 b (by simp)
          have ha := (hmem a).1 (by rw [hm]; simp)
          have hb := (hmem b).1 (by rw [hm]; simp)
          by_cases e2 : x = a
          · exact ⟨b, by omega, by rw [hb, e]⟩
          · exact ⟨a, fun e3 => e2 e3.symm, by rw [ha, e]⟩
    · exact Q.lp x h0 e
  · by_cases e : q = p
    · subst e; exact htie v hv hw
    · exact Q.ls q v (by omega) hv hl hw

theorem start_PI (n : Nat) (num : Int) : PI A n 0 ((0 : Nat) : Int) (ss0 n num) := by
  have hp : ∀ u, (ss0 n num).tj.pof u = if u < n then 0 else -1 := fun u => rfl
  refine ⟨⟨fun _ => rfl, rfl, fun _ => rfl⟩, ⟨fun _ => rfl, fun _ => rfl, rfl⟩, fun u hu => ?_, fun u hu => by omega, fun u => ?_, fun p h => ?_, fun p h => ?_, fun x y h0 hx hxy => ?_, fun x y _ _ h3 h4 _ _ _ => ?_, fun x h0 hx => ?_, fun p v hq hv => ?_⟩
  · rw [hp, if_neg (by omega)]
  · rw [hp]
    split
    · exact .inr ⟨by omega, by show (0 : Int) < ((1 : Nat) : Int); omega⟩
    · exact .inl rfl
  · have h' : p < 1 := h
    obtain rfl : p = 0 := by omega
    show upd (fun _ => []) 0 (List.range n) 0 = _
    rw [upd_same]
    refine (List.filter_eq_self.2 fun u hu => ?_).symm
    rw [hp, if_pos (List.mem_range.1 hu)]; rfl
  · have h' : 1 ≤ p := h
    refine ⟨?_, rfl⟩
    show upd (fun _ => []) 0 (List.range n) p = _
    rw [upd_other _ _ (by omega)]
  · rw [hp] at h0 hx
    split at h0
    · rename_i h; rw [if_pos h] at hx; exact absurd rfl hx
    · omega
  · rw [hp, hp, if_pos h3, if_pos h4]; exact ⟨rfl, by omega⟩
  · rw [hp] at h0 hx
    split at h0
    · rename_i h; rw [if_pos h] at hx; exact absurd rfl hx
    · omega
  · rw [hp] at hv
    split at hv
    · omega
    · omega

/-- What stands ahead of start i. -/
theorem run_law (G : GH A R n) (num : Int) : ∀ i, i ≤ n → (runL A R n lim (splitP A R n 0 (ss0 n num)) i).out = modelP A lim n i { cyc := [], num := num, more := false } ∧
    ((runL A R n lim (splitP A R n 0 (ss0 n num)) i).out.more = false → PI A n i (-1) (runL A R n lim (splitP A R n 0 (ss0 n num)) i)) := by
  intro i
  induction i with
  | zero =>
    intro _
    exact ⟨rfl, fun _ => split_PI G (start_PI n num) (by show 0 < 1; omega)⟩
  | succ i ih =>
    intro hi
    obtain ⟨h1, h2⟩ := ih (by omega)
    have em : modelP A lim n (i + 1) { cyc := [], num := num, more := false } = if (modelP A lim n i { cyc := [], num := num, more := false }).more then modelP A lim n i { cyc := [], num := num, more := false } else dfsP A lim i (n + 1) [] i (modelP A lim n i { cyc := [], num := num, more := false }) := rfl
    have er : runL A R n lim (splitP A R n 0 (ss0 n num)) (i + 1) = if (runL A R n lim (splitP A R n 0 (ss0 n num)) i).out.more then runL A R n lim (splitP A R n 0 (ss0 n num)) i else roundP A R n lim i (runL A R n lim (splitP A R n 0 (ss0 n num)) i) := rfl
    rw [em, er, ← h1]
    generalize runL A R n lim (splitP A R n 0 (ss0 n num)) i = s at *
    by_cases hm : s.out.more = true
    · rw [if_pos hm, if_pos hm]
      exact ⟨rfl, fun h => by rw [hm] at h; cases h⟩
    · rw [if_neg hm, if_neg hm]
      have P := h2 (by simpa using hm)
      unfold roundP
      by_cases h0 : s.tj.pof i < 0
      · rw [if_pos h0, none_start G P (by omega) h0]
        refine ⟨rfl, fun _ => ⟨P.rest, P.jr, P.pn, fun u hu => ?_, P.rg, P.mem, P.fr, P.sc, fun x y a b c d e f g => P.mx x y (by omega) (by omega) c d (e.mono fun z hz => by omega) (f.mono fun z hz => by omega) g, P.lp, P.ls⟩⟩
        by_cases e : u = i
        · rw [e]; rcases P.rg i with q | q
          · exact q
          · omega
        · exact P.lo u (by omega)
      · rw [if_neg h0]
        obtain ⟨k1, k2, _⟩ := look_law (lim := lim) G P (by omega) (by omega) (by simpa using hm)
        have hlt : (lookP A R n lim i s).tj = s.tj := rfl
        have hlm : (lookP A R n lim i s).mem = s.mem := rfl
        have hll : (lookP A R n lim i s).loo = s.loo := rfl
        generalize lookP A R n lim i s = s1 at *
        rw [← k1]
        by_cases hm1 : s1.out.more = true
        · rw [if_pos hm1]
          exact ⟨rfl, fun h => by rw [hm1] at h; cases h⟩
        · rw [if_neg hm1]
          have P1 : PI A n i (-1) s1 := by
            refine ⟨by rw [hlt]; exact P.rest, k2 (by simpa using hm1), ?_, ?_, ?_, ?_, ?_, ?_, ?_, ?_, ?_⟩
            · rw [hlt]; exact P.pn
            · rw [hlt]; exact P.lo
            · rw [hlt]; exact P.rg
            · rw [hlt, hlm]; exact P.mem
            · rw [hlt, hlm, hll]; exact P.fr
            · rw [hlt]; exact P.sc
            · rw [hlt]; exact P.mx
            · rw [hlt]; exact P.lp
            · rw [hlt, hll]; exact P.ls
          have hpi : s1.tj.pof i = (((s1.tj.pof i).toNat : Nat) : Int) := by rw [hlt]; omega
          unfold leaveP
          generalize (s1.tj.pof i).toNat = p at *
          have hpn : p < s1.tj.np := by rcases P1.rg i with q | q <;> omega
          by_cases hB : leaveB p (leave0 i p s1) = true
          · rw [if_pos hB]
            exact ⟨rfl, fun _ => split_PI G (leave0_PI P1 (by omega) p hpi) hpn⟩
          · rw [if_neg hB]
            exact ⟨rfl, fun _ => keep_PI P1 (by omega) p hpi (by simpa using hB)⟩
end

/-- THE LAW. -/
theorem law {A R : Nat → List Nat} {n : Nat} (G : GH A R n) (lim num : Int) : (runP A R n lim num).out = modelP A lim n n { cyc := [], num := num, more := false } := (run_law G num n (Nat.le_refl _)).1

end Go.Proofs.Ybulkcyk
