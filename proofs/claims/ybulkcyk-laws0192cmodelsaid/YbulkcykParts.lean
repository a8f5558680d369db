/-
  The parts: what run holds ahead of each start; and the law: run records what the plain walk records. No Go in sight.
-/
import Derived.Test.YbulkcykTarj
import Derived.Test.YbulkcykRunSpec
namespace Go.Proofs.Ybulkcyk

theorem RM.mono {A : Nat → List Nat} {M N : Nat → Prop} (h : ∀ z, M z → N z) {x y : Nat} (r : RM A M x y) : RM A N x y := by
  induction r with
  | refl => exact .refl
  | step a b _ ih => exact .step a (h _ b) ih
/-- At rest. -/
structure Rest (t : Tj) : Prop where
  idx : ∀ u, t.idx u = 0
  stk : t.stk = []
  ons : ∀ u, t.ons u = false
structure JR (j : Jn) : Prop where
  blk : ∀ u, j.blk u = false
  bls : ∀ u, j.bls u = []
  opn : j.opn = 0
structure GH (A R : Nat → List Nat) (n : Nat) : Prop where
  lt : ∀ v, ∀ w ∈ A v, w < n
  srt : ∀ v, (A v).Pairwise (· < ·)
  rad : ∀ v, R v = (List.range n).filter (fun u => (A u).contains v)
theorem GH.radm {A R : Nat → List Nat} {n : Nat} (G : GH A R n) (v u : Nat) : u ∈ R v ↔ u < n ∧ v ∈ A u := by
  rw [G.rad]; simp

/-- Ahead of split id: all but part id is as it should be. 'ex' is the part left out (-1: none). -/
structure PI (A : Nat → List Nat) (n st : Nat) (ex : Int) (s : Ss) : Prop where
  rest : Rest s.tj
  jr : JR s.jn
  pn : ∀ u, n ≤ u → s.tj.pof u = -1
  lo : ∀ u, u < st → s.tj.pof u = -1
  rg : ∀ u, s.tj.pof u = -1 ∨ (0 ≤ s.tj.pof u ∧ s.tj.pof u < s.tj.np)
  mem : ∀ p, p < s.tj.np → s.mem p = (List.range n).filter (fun u => decide (s.tj.pof u = (p : Int)))
  fr : ∀ p, s.tj.np ≤ p → s.mem p = [] ∧ s.loo p = 0
  sc : ∀ x y, 0 ≤ s.tj.pof x → s.tj.pof x ≠ ex → s.tj.pof y = s.tj.pof x → RM A (fun z => s.tj.pof z = s.tj.pof x) x y
  mx : ∀ x y, st ≤ x → st ≤ y → x < n → y < n → RM A (fun z => st ≤ z) x y → RM A (fun z => st ≤ z) y x → (x ≠ y ∨ x ∈ A x) → s.tj.pof y = s.tj.pof x ∧ 0 ≤ s.tj.pof x
  lp : ∀ x, 0 ≤ s.tj.pof x → s.tj.pof x ≠ ex → x ∈ A x ∨ ∃ y, y ≠ x ∧ s.tj.pof y = s.tj.pof x
  ls : ∀ p v : Nat, (p : Int) ≠ ex → s.tj.pof v = (p : Int) → s.loo p < (v : Int) → (∃ w, v < w ∧ s.tj.pof w = (p : Int)) → (∃ w, v < w ∧ s.tj.pof w = (p : Int) ∧ w ∈ A v) ∧ (∃ w, v < w ∧ s.tj.pof w = (p : Int) ∧ v ∈ A w)

theorem mem_filter_pof {n : Nat} {pof : Nat → Int} (pn : ∀ u, n ≤ u → pof u = -1) (p u : Nat) : u ∈ (List.range n).filter (fun u => decide (pof u = (p : Int))) ↔ pof u = (p : Int) := by
  rw [List.mem_filter, List.mem_range, decide_eq_true_eq]
  refine ⟨fun h => h.2, fun h => ⟨?_, h⟩⟩
  rcases Nat.lt_or_ge u n with q | q
  · exact q
  · rw [pn u q] at h; omega

/-! split -/
theorem ti_start {A : Nat → List Nat} {n st id : Nat} {ex : Int} {s : Ss} (P : PI A n st ex s) : TI A (fun u => s.tj.pof u = (id : Int)) id s.tj.np s.tj.pof n (s.tj.np + n) { s.tj with rch := 0 } := by
  have hi := P.rest.idx
  refine ⟨fun u => ?_, ?_, fun u => ?_, fun u => ?_, fun u h => h, fun u _ => rfl, fun u h => absurd (hi u) h, fun u h h2 => absurd h h2, fun x h h2 => absurd h h2, Nat.le_refl _, fun u h h2 => absurd h h2, fun x y h _ h2 => absurd h h2, fun x y h _ h2 => absurd h h2, fun x h h2 => absurd h h2, Nat.zero_le _, ?_⟩
  · show u ∈ s.tj.stk ↔ _
    rw [P.rest.stk]
    simp [hi u]
  · show s.tj.stk.Pairwise _
    rw [P.rest.stk]; simp
  · show s.tj.idx u ≤ 0
    rw [hi u]; exact Nat.le_refl _
  · show s.tj.ons u = true ↔ u ∈ s.tj.stk
    rw [P.rest.stk, P.rest.ons u]; simp
  · have := List.length_filter_le (fun u => decide (s.tj.pof u = (id : Int))) (List.range n)
    rw [List.length_range] at this
    show s.tj.np + cA n id { s.tj with rch := 0 } ≤ s.tj.np + n
    unfold cA
    exact Nat.add_le_add_left this _

/-- Behind the first loop of split. -/
structure S1 (A : Nat → List Nat) (M : Nat → Prop) (id : Int) (np0 : Nat) (p0 : Nat → Int) (n K : Nat) (pre : List Nat) (t : Tj) : Prop where
  ti : TI A M id np0 p0 n K t
  nil : t.stk = []
  vis : ∀ v ∈ pre, t.idx v ≠ 0
theorem s1_step {A : Nat → List Nat} {M : Nat → Prop} {id : Int} {np0 n K : Nat} {p0 : Nat → Int} (hid : id < (np0 : Int)) (hid0 : 0 ≤ id) (hM : ∀ u, M u → u < n) {pre : List Nat} {t : Tj} {v : Nat} (h : S1 A M id np0 p0 n K pre t) (hv : M v) :
    S1 A M id np0 p0 n K (pre ++ [v]) (spl1S A n id t v) ∧ (t.idx v = 0 → t.pof v = id) ∧ WFuel M n t := by
  have hf : WFuel M n t := ⟨List.range n, by simp, fun u hu _ => List.mem_range.2 (hM u hu)⟩
  have hp : t.idx v = 0 → t.pof v = id := fun h0 => by
    by_cases e : t.pof v = id
    · exact e
    · exact absurd h0 (h.ti.dvis v hv e)
  refine ⟨?_, hp, hf⟩
  unfold spl1S
  split
  · rename_i h0
    obtain ⟨T, W⟩ := walk_spec hM hid hid0 n v t h.ti hf (hp h0) h0
    generalize walkP A id n v t = t' at *
    obtain ⟨seg, e1, e2, _⟩ := W.seg
    refine ⟨T, ?_, fun u hu => ?_⟩
    · rw [e1, h.nil]
      cases seg with
      | nil => rfl
      | cons a r =>
        obtain ⟨y, hy, _⟩ := e2 a (by simp)
        rw [h.nil] at hy; cases hy
    · rcases List.mem_append.1 hu with q | q
      · have := h.vis u q
        rw [(W.old u this).1]; exact this
      · obtain rfl := List.mem_singleton.1 q; exact W.vv
  · rename_i h0
    refine ⟨h.ti, h.nil, fun u hu => ?_⟩
    rcases List.mem_append.1 hu with q | q
    · exact h.vis u q
    · obtain rfl := List.mem_singleton.1 q; exact h0
theorem s1_loop {A : Nat → List Nat} {M : Nat → Prop} {id : Int} {np0 n K : Nat} {p0 : Nat → Int} (hid : id < (np0 : Int)) (hid0 : 0 ≤ id) (hM : ∀ u, M u → u < n) : ∀ (suf pre : List Nat) (t : Tj), (∀ v ∈ suf, M v) → S1 A M id np0 p0 n K pre t → S1 A M id np0 p0 n K (pre ++ suf) (suf.foldl (spl1S A n id) t) := by
  intro suf
  induction suf with
  | nil => intro pre t _ h; simpa using h
  | cons v r ih =>
    intro pre t hs h
    rw [List.foldl_cons]
    have := ih (pre ++ [v]) _ (fun u hu => hs u (by simp [hu])) (s1_step hid hid0 hM h (hs v (by simp))).1
    simpa using this

theorem spl2_fold : ∀ (ms : List Nat) (t : Tj) (mem : Nat → List Nat), (ms.foldl spl2S (t, mem)).1 = { t with idx := fun u => if u ∈ ms then 0 else t.idx u } ∧
    ∀ p : Nat, (ms.foldl spl2S (t, mem)).2 p = mem p ++ ms.filter (fun v => decide (t.pof v = (p : Int))) := by
  intro ms
  induction ms with
  | nil => intro t mem; simp
  | cons v r ih =>
    intro t mem
    rw [List.foldl_cons]
    obtain ⟨h1, h2⟩ := ih { t with idx := upd t.idx v 0 } (spl2S (t, mem) v).2
    have e : spl2S (t, mem) v = ({ t with idx := upd t.idx v 0 }, (spl2S (t, mem) v).2) := rfl
    rw [e]
    refine ⟨?_, fun p => ?_⟩
    · rw [h1]
      simp only [Tj.mk.injEq, and_true]
      funext u
      by_cases a : u ∈ r
      · simp [a]
      · by_cases b : u = v
        · simp [b, upd]
        · simp [a, b, upd]
    · rw [h2]
      show (spl2S (t, mem) v).2 p ++ r.filter (fun v => decide (t.pof v = (p : Int))) = _
      unfold spl2S
      show (if 0 ≤ t.pof v then upd mem (t.pof v).toNat (mem (t.pof v).toNat ++ [v]) else mem) p ++ _ = _
      by_cases hp : t.pof v = (p : Int)
      · rw [if_pos (by omega), List.filter_cons_of_pos (by simpa using hp)]
        have : (t.pof v).toNat = p := by omega
        rw [this, upd_same]
        simp
      · rw [List.filter_cons_of_neg (by simpa using hp)]
        split
        · rw [upd_other _ _ (by omega)]
        · rfl

theorem loosL_low (A R : Nat → List Nat) (pof : Nat → Int) (mem : Nat → List Nat) (first : Nat) (loo : Nat → Int) : ∀ k p, p < first ∨ first + k ≤ p → loosL A R pof mem first loo k p = loo p := by
  intro k
  induction k with
  | zero => intro p _; rfl
  | succ k ih =>
    intro p hp
    show upd _ _ _ p = _
    rw [upd_other _ _ (by omega)]
    exact ih p (by omega)
theorem loosL_new (A R : Nat → List Nat) (pof : Nat → Int) (mem : Nat → List Nat) (first : Nat) (loo : Nat → Int) : ∀ k p, first ≤ p → p < first + k → loosL A R pof mem first loo k p = loosestP A R pof p (mem p) := by
  intro k
  induction k with
  | zero => intro p h1 h2; omega
  | succ k ih =>
    intro p h1 h2
    show upd _ _ _ p = _
    by_cases e : p = first + k
    · rw [e, upd_same]
    · rw [upd_other _ _ e]
      exact ih p h1 (by omega)

theorem abv_iff {pof : Nat → Int} {id v w : Nat} : abv pof id v w = true ↔ v < w ∧ pof w = (id : Int) := by simp [abv]
theorem tied_iff {A R : Nat → List Nat} {n : Nat} (G : GH A R n) {pof : Nat → Int} {id v : Nat} : tied A R pof id v = true ↔ (∃ w, v < w ∧ pof w = (id : Int) ∧ w ∈ A v) ∧ (∃ w, v < w ∧ pof w = (id : Int) ∧ w < n ∧ v ∈ A w) := by
  unfold tied
  rw [Bool.and_eq_true, List.any_eq_true, List.any_eq_true]
  constructor
  · rintro ⟨⟨w, h1, h2⟩, ⟨x, h3, h4⟩⟩
    rw [abv_iff] at h2 h4
    have := (G.radm v x).1 h3
    exact ⟨⟨w, h2.1, h2.2, h1⟩, ⟨x, h4.1, h4.2, this.1, this.2⟩⟩
  · rintro ⟨⟨w, h1, h2, h3⟩, ⟨x, h4, h5, h6, h7⟩⟩
    exact ⟨⟨w, h3, abv_iff.2 ⟨h1, h2⟩⟩, ⟨x, (G.radm v x).2 ⟨h6, h7⟩, abv_iff.2 ⟨h4, h5⟩⟩⟩

theorem loosest_spec (A R : Nat → List Nat) (pof : Nat → Int) (id : Nat) (ms : List Nat) (hs : ms.Pairwise (· < ·)) (v : Nat) (hv : v ∈ ms) (hl : loosestP A R pof id ms < (v : Int)) (hw : ∃ w ∈ ms, v < w) : tied A R pof id v = true := by
  have hvd : v ∈ ms.dropLast := by
    obtain ⟨w, hwm, hvw⟩ := hw
    have hne : ms ≠ [] := by intro e; rw [e] at hv; cases hv
    have hms := List.dropLast_concat_getLast hne
    rw [← hms] at hv
    rcases List.mem_append.1 hv with q | q
    · exact q
    · exfalso
      have hvl := List.mem_singleton.1 q
      rw [← hms] at hwm hs
      rcases List.mem_append.1 hwm with r | r
      · have := (List.pairwise_append.1 hs).2.2 w r (ms.getLast hne) (by simp)
        omega
      · have := List.mem_singleton.1 r
        omega
  have hsd : ms.dropLast.Pairwise (· < ·) := hs.sublist (List.dropLast_sublist ms)
  unfold loosestP at hl
  cases hf : ms.dropLast.reverse.find? (fun v => !tied A R pof id v) with
  | none =>
    have := List.find?_eq_none.1 hf v (by simpa using hvd)
    simpa using this
  | some v0 =>
    rw [hf] at hl
    have hl' : (v0 : Int) < (v : Int) := hl
    obtain ⟨_, as, bs, he, ha⟩ := List.find?_eq_some_iff_append.1 hf
    have hm : v ∈ as ++ v0 :: bs := by rw [← he]; simpa using hvd
    rcases List.mem_append.1 hm with q | q
    · have := ha v q
      simpa using this
    · rcases List.mem_cons.1 q with q | q
      · omega
      · exfalso
        have hr : (as ++ v0 :: bs).Pairwise (fun a b => b < a) := by rw [← he]; exact List.pairwise_reverse.2 hsd
        have := (List.pairwise_cons.1 (List.pairwise_append.1 hr).2.1).1 v q
        omega

/-- A path between two that reach one another stays among those that do. -/
theorem RM.within {A : Nat → List Nat} {M : Nat → Prop} {x y : Nat} (r : RM A M x y) : ∀ (N : Nat → Prop), (∀ z, M z → RM A M x z → RM A M z x → N z) → RM A M y x → RM A N x y := by
  induction r with
  | refl => intro N _ _; exact .refl
  | @step x z y a b c ih =>
    intro N h hb
    have hzx : RM A M z x := c.trans hb
    have hxz : RM A M x z := .one a b
    refine .step a (h z b hxz hzx) (ih N (fun u hu h1 h2 => h u hu (hxz.trans h1) (h2.trans hzx)) (hb.trans hxz))

theorem range_filter_sorted (n : Nat) (p : Nat → Bool) : ((List.range n).filter p).Pairwise (· < ·) := (List.pairwise_lt_range).filter _

theorem split_PI {A R : Nat → List Nat} {n st id : Nat} (G : GH A R n) {s : Ss} (P : PI A n st (id : Int) s) (hid : id < s.tj.np) : PI A n st (-1) (splitP A R n id s) := by
  have hmm : s.mem id = (List.range n).filter (fun u => decide (s.tj.pof u = (id : Int))) := P.mem id hid
  have hmem : ∀ u, u ∈ s.mem id ↔ s.tj.pof u = (id : Int) := fun u => by rw [hmm]; exact mem_filter_pof P.pn id u
  have hMn : ∀ u, s.tj.pof u = (id : Int) → u < n := fun u hu => by
    rcases Nat.lt_or_ge u n with q | q
    · exact q
    · rw [P.pn u q] at hu; omega
  have S : S1 A (fun u => s.tj.pof u = (id : Int)) id s.tj.np s.tj.pof n (s.tj.np + n) (s.mem id) (splT A n id s) := by
    have := s1_loop (A := A) (n := n) (id := (id : Int)) (np0 := s.tj.np) (p0 := s.tj.pof) (K := s.tj.np + n) (M := fun u => s.tj.pof u = (id : Int)) (by omega) (by omega) hMn (s.mem id) [] { s.tj with rch := 0 } (fun v hv => (hmem v).1 hv) ⟨ti_start P, P.rest.stk, fun v hv => absurd hv (by simp)⟩
    rw [List.nil_append] at this
    exact this
  obtain ⟨r1, r2⟩ := spl2_fold (s.mem id) (splT A n id s) (upd s.mem id [])
  have e1 : (splR A n id s).1 = { splT A n id s with idx := fun u => if u ∈ s.mem id then 0 else (splT A n id s).idx u } := r1
  have e2 : ∀ p : Nat, (splR A n id s).2 p = upd s.mem id [] p ++ (s.mem id).filter (fun v => decide ((splT A n id s).pof v = (p : Int))) := r2
  have hpof : (splitP A R n id s).tj.pof = (splT A n id s).pof := by show (splR A n id s).1.pof = _; rw [e1]
  have hnp : (splitP A R n id s).tj.np = (splT A n id s).np := by show (splR A n id s).1.np = _; rw [e1]
  have hnp' : (splR A n id s).1.np = (splT A n id s).np := by rw [e1]
  have hpof' : (splR A n id s).1.pof = (splT A n id s).pof := by rw [e1]
  generalize splT A n id s = t at *
  have T := S.ti
  have hdone : ∀ u, s.tj.pof u = (id : Int) → t.pof u ≠ (id : Int) := fun u hu e => by
    have := (T.stk u).2 ⟨e, S.vis u ((hmem u).2 hu)⟩
    rw [S.nil] at this; cases this
  have hout : ∀ u, s.tj.pof u ≠ (id : Int) → t.pof u = s.tj.pof u := fun u hu => T.out u hu
  have hnpl := T.npl
  have hnew : ∀ u, s.tj.pof u = (id : Int) → t.pof u = -1 ∨ ((s.tj.np : Int) ≤ t.pof u ∧ t.pof u < t.np) := fun u hu => T.rng u hu (hdone u hu)
  have hne : ∀ u, t.pof u ≠ (id : Int) := fun u => by
    by_cases h : s.tj.pof u = (id : Int)
    · exact hdone u h
    · rw [hout u h]; exact h
  -- an old part's members, a new part's
  have hold : ∀ u, 0 ≤ t.pof u → t.pof u < s.tj.np → s.tj.pof u ≠ (id : Int) ∧ t.pof u = s.tj.pof u := fun u h1 h2 => by
    by_cases h : s.tj.pof u = (id : Int)
    · rcases hnew u h with q | q <;> omega
    · exact ⟨h, hout u h⟩
  have hnew2 : ∀ u, (s.tj.np : Int) ≤ t.pof u → s.tj.pof u = (id : Int) := fun u h1 => by
    by_cases h : s.tj.pof u = (id : Int)
    · exact h
    · rw [hout u h] at h1
      rcases P.rg u with q | q <;> omega
  have hpn : ∀ u, n ≤ u → t.pof u = -1 := fun u hu => by
    have := P.pn u hu
    rw [hout u (by omega)]; exact this
  have hmemN : ∀ p, p < t.np → (splR A n id s).2 p = (List.range n).filter (fun u => decide (t.pof u = (p : Int))) := fun p hp => by
    rw [e2 p]
    by_cases hpi : p = id
    · rw [hpi, upd_same, List.nil_append]
      rw [List.filter_eq_nil_iff.2 (fun u _ => by simpa using hne u), List.filter_eq_nil_iff.2 (fun u _ => by simpa using hne u)]
    · rw [upd_other _ _ hpi]
      by_cases hpl : p < s.tj.np
      · rw [List.filter_eq_nil_iff.2 (fun u hu => by
          have := hnew u ((hmem u).1 hu)
          simp only [decide_eq_true_eq]
          omega), List.append_nil, P.mem p hpl]
        refine List.filter_congr fun u _ => ?_
        by_cases h : s.tj.pof u = (id : Int)
        · have := hnew u h
          rw [decide_eq_false (by omega), decide_eq_false (by omega)]
        · rw [hout u h]
      · rw [(P.fr p (by omega)).1, List.nil_append, hmm, List.filter_filter]
        refine List.filter_congr fun u _ => ?_
        by_cases h : t.pof u = (p : Int)
        · rw [decide_eq_true h, decide_eq_true (hnew2 u (by omega))]; rfl
        · rw [decide_eq_false h]; rfl
  refine ⟨⟨fun u => ?_, ?_, fun u => ?_⟩, P.jr, fun u hu => by rw [hpof]; exact hpn u hu, fun u hu => ?_, fun u => ?_, fun p hp => ?_, fun p hp => ?_, fun x y h0 _ hxy => ?_, fun x y h1 h2 h3 h4 h5 h6 h7 => ?_, fun x h0 _ => ?_, fun p v _ hv hl hw => ?_⟩
  · show (splR A n id s).1.idx u = 0
    rw [e1]
    show (if u ∈ s.mem id then 0 else t.idx u) = 0
    split
    · rfl
    · rename_i h
      rcases Nat.eq_zero_or_pos (t.idx u) with q | q
      · exact q
      · exact absurd ((hmem u).2 (T.vis u (by omega))) h
  · show (splR A n id s).1.stk = []
    rw [e1]; exact S.nil
  · show (splR A n id s).1.ons u = false
    rw [e1]
    refine bool_false_of fun e => ?_
    have := (T.ons u).1 e
    rw [S.nil] at this; cases this
  · rw [hpof]
    have := P.lo u hu
    rw [hout u (by omega)]; exact this
  · rw [hpof, hnp]
    by_cases h : s.tj.pof u = (id : Int)
    · rcases hnew u h with q | q
      · exact .inl q
      · exact .inr ⟨by omega, q.2⟩
    · rw [hout u h]
      rcases P.rg u with q | q
      · exact .inl q
      · exact .inr ⟨q.1, by omega⟩
  · rw [hnp] at hp
    rw [hpof]
    exact hmemN p hp
  · rw [hnp] at hp
    refine ⟨?_, ?_⟩
    · show (splR A n id s).2 p = []
      rw [e2 p, upd_other _ _ (by omega), (P.fr p (by omega)).1, List.nil_append]
      refine List.filter_eq_nil_iff.2 fun u hu => ?_
      have := hnew u ((hmem u).1 hu)
      simp only [decide_eq_true_eq]
      omega
    · show loosL _ _ _ _ _ _ _ p = 0
      rw [loosL_low _ _ _ _ _ _ _ _ (by rw [hnp']; omega)]
      exact (P.fr p (by omega)).2
  · rw [hpof] at h0 hxy ⊢
    by_cases hxp : t.pof x < s.tj.np
    · obtain ⟨q1, q2⟩ := hold x h0 hxp
      obtain ⟨q3, q4⟩ := hold y (by omega) (by omega)
      have := P.sc x y (by omega) q1 (by omega)
      refine this.mono fun z hz => ?_
      have hz1 : s.tj.pof z ≠ (id : Int) := by rw [hz]; exact q1
      rw [hout z hz1, hz, q2]
    · have hx := hnew2 x (by omega)
      have hy := hnew2 y (by omega)
      have r1 := T.eqv x y hx hy (hne x) (hne y) hxy.symm h0
      have r2 := T.eqv y x hy hx (hne y) (hne x) hxy (by omega)
      exact r1.within _ (fun z hz h1 h2 => (T.max x z hx hz (hne x) h1 h2).1) r2
  · rw [hpof]
    obtain ⟨q1, q2⟩ := P.mx x y h1 h2 h3 h4 h5 h6 h7
    by_cases hx : s.tj.pof x = (id : Int)
    · have hy : s.tj.pof y = (id : Int) := by rw [q1]; exact hx
      have hin : ∀ z, st ≤ z → RM A (fun z => st ≤ z) x z → RM A (fun z => st ≤ z) z x → s.tj.pof z = (id : Int) := fun z hz r1 r2 => by
        by_cases e : x = z
        · rw [← e]; exact hx
        · have hzn : z < n := by
            exact RM.closed (A := A) (M := fun z => st ≤ z) (D := fun z => z < n) (fun a _ b hb _ => G.lt a b hb) r1 h3
          rw [(P.mx x z h1 hz h3 hzn r1 r2 (.inl e)).1]; exact hx
      have r1 : RM A (fun u => s.tj.pof u = (id : Int)) x y := h5.within _ hin h6
      have r2 : RM A (fun u => s.tj.pof u = (id : Int)) y x := h6.within _ (fun z hz a b => hin z hz (h5.trans a) (b.trans h6)) h5
      have m := T.max x y hx hy (hne x) r1 r2
      refine ⟨m.1, ?_⟩
      by_cases e : x = y
      · rcases h7 with q | q
        · exact absurd e q
        · exact (T.lop x hx (hne x)).2 q
      · exact m.2 e
    · have hy : s.tj.pof y ≠ (id : Int) := by rw [q1]; exact hx
      rw [hout x hx, hout y hy]
      exact ⟨q1, q2⟩
  · rw [hpof] at h0 ⊢
    by_cases hxp : t.pof x < s.tj.np
    · obtain ⟨q1, q2⟩ := hold x h0 hxp
      rcases P.lp x (by omega) q1 with q | ⟨y, q3, q4⟩
      · exact .inl q
      · have hy1 : s.tj.pof y ≠ (id : Int) := by rw [q4]; exact q1
        exact .inr ⟨y, q3, by rw [hout y hy1, q4, q2]⟩
    · have hx := hnew2 x (by omega)
      rcases (T.lop x hx (hne x)).1 h0 with q | ⟨y, q1, q2, q3⟩
      · exact .inl q
      · exact .inr ⟨y, q1, q3⟩
  · rw [hpof] at hv hw ⊢
    have hl' : loosL A R (splR A n id s).1.pof (splR A n id s).2 s.tj.np s.loo ((splR A n id s).1.np - s.tj.np) p < (v : Int) := hl
    rw [hpof', hnp'] at hl'
    have hpt : p < t.np := by
      rcases Nat.lt_or_ge p s.tj.np with q | q
      · omega
      · have := hnew v (hnew2 v (by omega))
        omega
    by_cases hps : p < s.tj.np
    · rw [loosL_low _ _ _ _ _ _ _ _ (by omega)] at hl'
      obtain ⟨q1, q2⟩ := hold v (by omega) (by omega)
      obtain ⟨w, w1, w2⟩ := hw
      have hpi : (p : Int) ≠ (id : Int) := by rw [← hv, q2]; exact q1
      have := P.ls p v hpi (by omega) hl' ⟨w, w1, by rw [← (hold w (by omega) (by omega)).2]; exact w2⟩
      obtain ⟨⟨a, a1, a2, a3⟩, ⟨b, b1, b2, b3⟩⟩ := this
      exact ⟨⟨a, a1, by rw [hout a (by rw [a2]; exact hpi)]; exact a2, a3⟩, ⟨b, b1, by rw [hout b (by rw [b2]; exact hpi)]; exact b2, b3⟩⟩
    · rw [loosL_new _ _ _ _ _ _ _ _ (by omega) (by omega)] at hl'
      have hmp := hmemN p hpt
      have ht := loosest_spec A R t.pof p ((splR A n id s).2 p) (by rw [hmp]; exact range_filter_sorted _ _) v (by rw [hmp]; exact (mem_filter_pof hpn p v).2 hv) hl' (by
        obtain ⟨w, w1, w2⟩ := hw
        exact ⟨w, by rw [hmp]; exact (mem_filter_pof hpn p w).2 w2, w1⟩)
      obtain ⟨⟨a, a1, a2, a3⟩, ⟨b, b1, b2, _, b3⟩⟩ := (tied_iff G).1 ht
      exact ⟨⟨a, a1, a2, a3⟩, ⟨b, b1, b2, b3⟩⟩

end Go.Proofs.Ybulkcyk
