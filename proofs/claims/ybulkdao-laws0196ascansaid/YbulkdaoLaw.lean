/-
  The plain law: the fold of RecoveryOf and the model's searches give the same three answers.
-/
import Derived.Test.YbulkdaoSpec
namespace Go.Proofs.Ybulkdao
open Go.MapKept (bytes_beq)

theorem beqS {a b : ByteArray} : (a == b) = true ↔ a = b := bytes_beq a b
theorem beqS_false {a b : ByteArray} : (a == b) = false ↔ a ≠ b := by
  rw [← Bool.not_eq_true, beqS]
theorem updS_same {α : Type} (f : ByteArray → α) (k : ByteArray) (v : α) : updS f k v k = v := by simp [updS, beqS.2 rfl]
theorem updS_other {α : Type} (f : ByteArray → α) (k x : ByteArray) (v : α) (h : x ≠ k) : updS f k v x = f x := by simp [updS, beqS_false.2 h]
theorem updI_same {α : Type} (f : Int → α) (t : Int) (v : α) : updI f t v t = v := by simp [updI]
theorem updI_other {α : Type} (f : Int → α) (t x : Int) (v : α) (h : x ≠ t) : updI f t v x = f x := by simp [updI, h]

/-- There is a step of kind kd by u among the first i. -/
def Ev (S : Nat → Stp) (kd u : Int) (i : Nat) : Prop := ∃ j, j < i ∧ (S j).kd = kd ∧ (S j).tx = u
theorem Ev.mono {S : Nat → Stp} {kd u : Int} {i j : Nat} (h : Ev S kd u i) (hij : i ≤ j) : Ev S kd u j := by
  obtain ⟨a, h1, h2⟩ := h
  exact ⟨a, by omega, h2⟩
theorem Ev_succ {S : Nat → Stp} {kd u : Int} {i : Nat} : Ev S kd u (i + 1) ↔ Ev S kd u i ∨ ((S i).kd = kd ∧ (S i).tx = u) := by
  constructor
  · rintro ⟨j, h1, h2⟩
    by_cases e : j = i
    · subst e; exact .inr h2
    · exact .inl ⟨j, by omega, h2⟩
  · rintro (⟨j, h1, h2⟩ | h)
    · exact ⟨j, by omega, h2⟩
    · exact ⟨i, by omega, h⟩

theorem fst_spec (S : Nat → Stp) (n : Nat) (kd u : Int) : ∀ i, i ≤ n → (fstN S n kd u i = n ∧ ¬ Ev S kd u i) ∨ (fstN S n kd u i < i ∧ (S (fstN S n kd u i)).kd = kd ∧ (S (fstN S n kd u i)).tx = u ∧ ¬ Ev S kd u (fstN S n kd u i)) := by
  intro i
  induction i with
  | zero => intro _; exact .inl ⟨rfl, fun ⟨j, h, _⟩ => by omega⟩
  | succ i ih =>
    intro hi
    rw [fstN]
    rcases ih (by omega) with ⟨h1, h2⟩ | ⟨h1, h2, h3, h4⟩
    · by_cases hc : (S i).kd = kd ∧ (S i).tx = u
      · rw [if_pos ⟨hc.1, hc.2, h1⟩]
        exact .inr ⟨by omega, hc.1, hc.2, h2⟩
      · rw [if_neg (fun h => hc ⟨h.1, h.2.1⟩), h1]
        exact .inl ⟨rfl, fun h => by rcases Ev_succ.1 h with h | h; exact h2 h; exact hc h⟩
    · rw [if_neg (by rintro ⟨_, _, h⟩; omega)]
      exact .inr ⟨by omega, h2, h3, h4⟩
theorem fst_lt (S : Nat → Stp) (n : Nat) (kd u : Int) (i : Nat) (hi : i ≤ n) : fstN S n kd u n < i ↔ Ev S kd u i := by
  rcases fst_spec S n kd u n (Nat.le_refl _) with ⟨h1, h2⟩ | ⟨h1, h2, h3, h4⟩
  · constructor
    · intro h; omega
    · intro h; exact absurd (h.mono hi) h2
  · constructor
    · intro h; exact ⟨_, h, h2, h3⟩
    · intro h
      rcases Nat.lt_or_ge (fstN S n kd u n) i with h5 | h5
      · exact h5
      · exact absurd (h.mono h5) h4

/-- The steps are plain. -/
structure Plain (S : Nat → Stp) (n : Nat) : Prop where
  kd : ∀ i, i < n → (S i).kd = 1 ∨ (S i).kd = 2 ∨ (S i).kd = 4 ∨ (S i).kd = 5
  tx : ∀ i, i < n → 0 ≤ (S i).tx ∧ (S i).tx ≤ 3

theorem readTo_com (σ : Sig) (s : Stp) (w : List Int) : (readTo σ s w).com = σ.com ∧ (readTo σ s w).abo = σ.abo ∧ (readTo σ s w).opn = σ.opn ∧ (readTo σ s w).wrt = σ.wrt ∧ (readTo σ s w).str = σ.str ∧ (readTo σ s w).rcv = σ.rcv ∧ (readTo σ s w).wrs = updS σ.wrs s.ky w := by
  unfold readTo
  split
  · exact ⟨rfl, rfl, rfl, rfl, rfl, rfl, rfl⟩
  · split <;> exact ⟨rfl, rfl, rfl, rfl, rfl, rfl, rfl⟩
theorem wrote_com (σ : Sig) (s : Stp) : (wrote σ s).com = σ.com ∧ (wrote σ s).abo = σ.abo ∧ (wrote σ s).str = σ.str ∧ (wrote σ s).rcv = σ.rcv ∧ (wrote σ s).cas = σ.cas ∧ (wrote σ s).rdf = σ.rdf ∧ (wrote σ s).wrs = updS σ.wrs s.ky (σ.wrs s.ky ++ [s.tx]) := by
  unfold wrote
  split <;> exact ⟨rfl, rfl, rfl, rfl, rfl, rfl, rfl⟩

theorem wrote_yes (σ : Sig) (s : Stp) (h : (σ.opn s.ky).contains s.tx = true) : (wrote σ s).opn = σ.opn ∧ (wrote σ s).wrt = σ.wrt := by
  unfold wrote; rw [if_pos h]; exact ⟨rfl, rfl⟩
theorem wrote_no (σ : Sig) (s : Stp) (h : ¬ (σ.opn s.ky).contains s.tx = true) : (wrote σ s).opn = updS σ.opn s.ky (σ.opn s.ky ++ [s.tx]) ∧ (wrote σ s).wrt = updI σ.wrt s.tx (σ.wrt s.tx ++ [s.ky]) := by
  unfold wrote; rw [if_neg h]; exact ⟨rfl, rfl⟩
theorem step_two (σ : Sig) (s : Stp) (h : s.kd = 2) : stepR σ s = wrote (seen σ s) s := by
  unfold stepR; rw [if_neg (by omega), if_pos h]

theorem step_com (σ : Sig) (s : Stp) (h : s.kd = 1 ∨ s.kd = 2 ∨ s.kd = 4 ∨ s.kd = 5) : (stepR σ s).com = if s.kd = 4 then updI σ.com s.tx true else σ.com := by
  unfold stepR
  rcases h with h | h | h | h <;> simp [h, (readTo_com _ _ _).1, (wrote_com _ _).1, seen, ended]
theorem step_abo (σ : Sig) (s : Stp) (h : s.kd = 1 ∨ s.kd = 2 ∨ s.kd = 4 ∨ s.kd = 5) : (stepR σ s).abo = if s.kd = 5 then updI σ.abo s.tx true else σ.abo := by
  unfold stepR
  rcases h with h | h | h | h <;> simp [h, (readTo_com _ _ _).2.1, (wrote_com _ _).2.1, seen, ended]

theorem sig_com {S : Nat → Stp} {n : Nat} (hp : Plain S n) (u : Int) : ∀ i, i ≤ n → ((sigR S i).com u = true ↔ Ev S 4 u i) := by
  intro i
  induction i with
  | zero => intro _; simp [sigR, sig0, Ev]
  | succ i ih =>
    intro hi
    rw [sigR, step_com _ _ (hp.kd i (by omega)), Ev_succ, ← ih (by omega)]
    by_cases h : (S i).kd = 4
    · rw [if_pos h]
      by_cases e : u = (S i).tx
      · subst e; simp [updI_same, h]
      · rw [updI_other _ _ _ _ e]; simp [h]; intro h'; exact absurd h'.symm e
    · rw [if_neg h]; simp [h]
theorem sig_abo {S : Nat → Stp} {n : Nat} (hp : Plain S n) (u : Int) : ∀ i, i ≤ n → ((sigR S i).abo u = true ↔ Ev S 5 u i) := by
  intro i
  induction i with
  | zero => intro _; simp [sigR, sig0, Ev]
  | succ i ih =>
    intro hi
    rw [sigR, step_abo _ _ (hp.kd i (by omega)), Ev_succ, ← ih (by omega)]
    by_cases h : (S i).kd = 5
    · rw [if_pos h]
      by_cases e : u = (S i).tx
      · subst e; simp [updI_same, h]
      · rw [updI_other _ _ _ _ e]; simp [h]; intro h'; exact absurd h'.symm e
    · rw [if_neg h]; simp [h]

/-! Strict. -/
theorem mem_delAll (t : Int) (ks : List ByteArray) : ∀ (opn : ByteArray → List Int), (∀ k, (opn k).Nodup) → (∀ k, (delAll t opn ks k).Nodup) ∧ ∀ k u, u ∈ delAll t opn ks k ↔ u ∈ opn k ∧ (u ≠ t ∨ k ∉ ks) := by
  induction ks with
  | nil => intro opn h; exact ⟨h, fun k u => by simp [delAll]⟩
  | cons k0 ks ih =>
    intro opn h
    have h' : ∀ k, (updS opn k0 ((opn k0).erase t) k).Nodup := by
      intro k
      by_cases e : k = k0
      · subst e; rw [updS_same]; exact (h k).erase t
      · rw [updS_other _ _ _ _ e]; exact h k
    obtain ⟨a, b⟩ := ih _ h'
    refine ⟨a, fun k u => ?_⟩
    rw [delAll, b]
    by_cases e : k = k0
    · subst e
      rw [updS_same, (h k).mem_erase_iff]
      simp
      constructor
      · rintro ⟨⟨h1, h2⟩, h3⟩; exact ⟨h2, h1⟩
      · rintro ⟨h1, h2⟩; exact ⟨⟨h2, h1⟩, .inl h2⟩
    · rw [updS_other _ _ _ _ e]
      simp [e]

structure OpnOk (S : Nat → Stp) (i : Nat) : Prop where
  nd : ∀ k, ((sigR S i).opn k).Nodup
  mem : ∀ k u, u ∈ (sigR S i).opn k ↔ dirty S u k i = true
  wr : ∀ k u, u ∈ (sigR S i).opn k → k ∈ (sigR S i).wrt u

theorem opn_ok {S : Nat → Stp} {n : Nat} (hp : Plain S n) : ∀ i, i ≤ n → OpnOk S i := by
  intro i
  induction i with
  | zero => intro _; exact ⟨fun k => by simp [sigR, sig0], fun k u => by simp [sigR, sig0, dirty], fun k u h => by simp [sigR, sig0] at h⟩
  | succ i ih =>
    intro hi
    obtain ⟨h1, h2, h3⟩ := ih (by omega)
    rcases hp.kd i (by omega) with hk | hk | hk | hk
    · have e1 : (sigR S (i + 1)).opn = (sigR S i).opn := by simp [sigR, stepR, hk, (readTo_com _ _ _).2.2.1, seen]
      have e2 : (sigR S (i + 1)).wrt = (sigR S i).wrt := by simp [sigR, stepR, hk, (readTo_com _ _ _).2.2.2.1, seen]
      refine ⟨fun k => by rw [e1]; exact h1 k, fun k u => ?_, fun k u h => by rw [e1] at h; rw [e2]; exact h3 k u h⟩
      rw [e1, h2, dirty]
      simp [hk]
    · by_cases hc : ((sigR S i).opn (S i).ky).contains (S i).tx
      · have e1 : (sigR S (i + 1)).opn = (sigR S i).opn := by rw [sigR, step_two _ _ hk]; exact (wrote_yes (seen (sigR S i) (S i)) (S i) hc).1
        have e2 : (sigR S (i + 1)).wrt = (sigR S i).wrt := by rw [sigR, step_two _ _ hk]; exact (wrote_yes (seen (sigR S i) (S i)) (S i) hc).2
        refine ⟨fun k => by rw [e1]; exact h1 k, fun k u => ?_, fun k u h => by rw [e1] at h; rw [e2]; exact h3 k u h⟩
        rw [e1, h2, dirty]
        by_cases e : (S i).tx = u
        · subst e
          by_cases e3 : (S i).ky = k
          · subst e3
            have : dirty S (S i).tx (S i).ky i = true := by rw [← h2]; simpa using hc
            simp [hk, this]
          · simp [hk, e3]
        · simp [e]
      · have e1 : (sigR S (i + 1)).opn = updS (sigR S i).opn (S i).ky ((sigR S i).opn (S i).ky ++ [(S i).tx]) := by rw [sigR, step_two _ _ hk]; exact (wrote_no (seen (sigR S i) (S i)) (S i) hc).1
        have e2 : (sigR S (i + 1)).wrt = updI (sigR S i).wrt (S i).tx ((sigR S i).wrt (S i).tx ++ [(S i).ky]) := by rw [sigR, step_two _ _ hk]; exact (wrote_no (seen (sigR S i) (S i)) (S i) hc).2
        have hc' : (S i).tx ∉ (sigR S i).opn (S i).ky := by simpa using hc
        refine ⟨fun k => ?_, fun k u => ?_, fun k u h => ?_⟩
        · rw [e1]
          by_cases e : k = (S i).ky
          · subst e
            rw [updS_same]
            rw [List.nodup_append]
            refine ⟨h1 _, by simp, fun a ha b hb => ?_⟩
            simp at hb
            subst hb
            intro e
            exact hc' (e ▸ ha)
          · rw [updS_other _ _ _ _ e]; exact h1 k
        · rw [e1, dirty]
          by_cases e : (S i).tx = u
          · subst e
            by_cases e3 : (S i).ky = k
            · subst e3; rw [updS_same]; simp [hk]
            · rw [updS_other _ _ _ _ (Ne.symm e3), h2]; simp [hk, e3]
          · by_cases e3 : (S i).ky = k
            · subst e3; rw [updS_same]; simp [e, h2]; intro h'; exact absurd h'.symm e
            · rw [updS_other _ _ _ _ (Ne.symm e3), h2]; simp [e]
        · rw [e1] at h
          rw [e2]
          by_cases e3 : (S i).ky = k
          · subst e3
            rw [updS_same] at h
            by_cases e : u = (S i).tx
            · subst e; rw [updI_same]; simp
            · rw [updI_other _ _ _ _ e]
              have : u ∈ (sigR S i).opn (S i).ky := by
                rcases List.mem_append.1 h with h | h
                · exact h
                · exact absurd (by simpa using h) e
              exact h3 _ _ this
          · rw [updS_other _ _ _ _ (Ne.symm e3)] at h
            have := h3 _ _ h
            by_cases e : u = (S i).tx
            · subst e; rw [updI_same]; simp [this]
            · rw [updI_other _ _ _ _ e]; exact this
    all_goals
      have e1 : (sigR S (i + 1)).opn = delAll (S i).tx (sigR S i).opn ((sigR S i).wrt (S i).tx) := by simp [sigR, stepR, hk, ended]
      have e2 : (sigR S (i + 1)).wrt = (sigR S i).wrt := by simp [sigR, stepR, hk, ended]
      obtain ⟨m1, m2⟩ := mem_delAll (S i).tx ((sigR S i).wrt (S i).tx) (sigR S i).opn h1
      refine ⟨fun k => by rw [e1]; exact m1 k, fun k u => ?_, fun k u h => ?_⟩
      · rw [e1, m2, dirty]
        by_cases e : (S i).tx = u
        · subst e
          simp [hk]
          exact h3 k _
        · simp [e, h2]
          intro _; exact .inl (fun h => e h.symm)
      · rw [e1, m2] at h
        rw [e2]
        exact h3 k u h.1

theorem bad_iff (σ : Sig) (s : Stp) (h : (σ.opn s.ky).Nodup) : bad σ s = true ↔ ∃ u, u ∈ σ.opn s.ky ∧ u ≠ s.tx := by
  unfold bad
  generalize σ.opn s.ky = l at *
  match l, h with
  | [], _ => simp
  | [a], _ =>
    simp
    constructor
    · intro h e; exact h e.symm
    · intro h e; exact h e.symm
  | a :: b :: l, h =>
    simp
    have hab : a ≠ b := by
      intro e
      rw [e] at h
      simp at h
    by_cases e : a = s.tx
    · exact .inr (.inl fun e2 => hab (e.trans e2.symm))
    · exact .inl e
theorem dirty_tx {S : Nat → Stp} {n : Nat} (hp : Plain S n) (u : Int) (k : ByteArray) : ∀ i, i ≤ n → dirty S u k i = true → 0 ≤ u ∧ u ≤ 3 := by
  intro i
  induction i with
  | zero => intro _ h; simp [dirty] at h
  | succ i ih =>
    intro hi h
    rw [dirty] at h
    by_cases e : (S i).tx = u
    · rw [← e]; exact hp.tx i (by omega)
    · simp [e] at h; exact ih (by omega) h
theorem okS_iff {S : Nat → Stp} {n : Nat} (hp : Plain S n) (i : Nat) (hi : i < n) (hk : (S i).kd = 1 ∨ (S i).kd = 2) : okS S i = !bad (sigR S i) (S i) := by
  have ho := opn_ok hp i (by omega)
  have hb := bad_iff (sigR S i) (S i) (ho.nd _)
  rw [Bool.eq_iff_iff, Bool.not_eq_true', ← Bool.not_eq_true, hb]
  unfold okS
  have h0 : ¬ ((S i).kd ≠ 1 ∧ (S i).kd ≠ 2) := by rcases hk with h | h <;> simp [h]
  simp only [h0, decide_false, Bool.false_or, List.all_eq_true, Bool.or_eq_true, decide_eq_true_eq, Bool.not_eq_true']
  constructor
  · rintro h ⟨u, hu, hne⟩
    rw [ho.mem] at hu
    have hr := dirty_tx hp u _ i (by omega) hu
    have : u ∈ ([0, 1, 2, 3] : List Int) := by simp; omega
    rcases h u this with h | h
    · exact hne h
    · rw [h] at hu; cases hu
  · intro h u _
    by_cases e : u = (S i).tx
    · exact .inl e
    · right
      rw [← Bool.not_eq_true, ← ho.mem]
      exact fun hu => h ⟨u, hu, e⟩
theorem str_law {S : Nat → Stp} {n : Nat} (hp : Plain S n) : ∀ i, i ≤ n → (sigR S i).str = allTo (okS S) i := by
  intro i
  induction i with
  | zero => intro _; rfl
  | succ i ih =>
    intro hi
    rw [allTo, ← ih (by omega), sigR]
    rcases hp.kd i (by omega) with hk | hk | hk | hk
    · rw [okS_iff hp i (by omega) (.inl hk)]; simp [stepR, hk, (readTo_com _ _ _).2.2.2.2.1, seen]
    · rw [okS_iff hp i (by omega) (.inr hk)]; simp only [stepR, hk]; simp [(wrote_com _ _).2.2.1, seen]
    · simp [stepR, hk, ended, okS]
    · simp [stepR, hk, ended, okS]

/-! Where a read reads from. -/
/-- The writers of k among the first i steps, in order. -/
def wl (S : Nat → Stp) (k : ByteArray) : Nat → List Int
  | 0 => []
  | i + 1 => if (S i).kd = 2 ∧ (S i).ky = k then wl S k i ++ [(S i).tx] else wl S k i

theorem dropAb_filter (ab : Int → Bool) (xs : List Int) : (dropAb ab xs).filter (fun u => !ab u) = xs.filter (fun u => !ab u) := by
  unfold dropAb
  rw [List.filter_reverse]
  have : ∀ l : List Int, (l.dropWhile ab).filter (fun u => !ab u) = l.filter (fun u => !ab u) := by
    intro l
    induction l with
    | nil => rfl
    | cons a l ih =>
      rw [List.dropWhile_cons]
      split
      · rename_i h; rw [ih]; simp [h]
      · rfl
  rw [this, List.filter_reverse]
  simp
theorem dropAb_last (ab : Int → Bool) (xs : List Int) : (dropAb ab xs).getLast? = (xs.filter (fun u => !ab u)).getLast? := by
  unfold dropAb
  rw [List.getLast?_reverse]
  have h2 : (xs.filter (fun u => !ab u)).getLast? = ((xs.reverse).filter (fun u => !ab u)).head? := by
    rw [List.filter_reverse, List.head?_reverse]
  rw [h2]
  generalize xs.reverse = l
  induction l with
  | nil => rfl
  | cons a l ih =>
    rw [List.dropWhile_cons]
    cases h : ab a
    · simp [h]
    · simp [h, ih]
theorem filter_congr' {p q : Int → Bool} (l : List Int) (h : ∀ u, u ∈ l → p u = q u) : l.filter p = l.filter q := List.filter_congr h

theorem wrs_ok {S : Nat → Stp} {n : Nat} (hp : Plain S n) (k : ByteArray) : ∀ i, i ≤ n → ((sigR S i).wrs k).filter (fun u => !(sigR S i).abo u) = (wl S k i).filter (fun u => !(sigR S i).abo u) := by
  intro i
  induction i with
  | zero => intro _; rfl
  | succ i ih =>
    intro hi
    have ih' := ih (by omega)
    have ha := step_abo (sigR S i) (S i) (hp.kd i (by omega))
    rcases hp.kd i (by omega) with hk | hk | hk | hk
    · have e0 : (sigR S (i + 1)).abo = (sigR S i).abo := by rw [sigR, ha]; simp [hk]
      have e1 : (sigR S (i + 1)).wrs = updS (sigR S i).wrs (S i).ky (dropAb (sigR S i).abo ((sigR S i).wrs (S i).ky)) := by simp [sigR, stepR, hk, (readTo_com _ _ _).2.2.2.2.2.2, seen]
      rw [e0, e1, wl, if_neg (by simp [hk])]
      by_cases e : k = (S i).ky
      · subst e; rw [updS_same, dropAb_filter]; exact ih'
      · rw [updS_other _ _ _ _ e]; exact ih'
    · have e0 : (sigR S (i + 1)).abo = (sigR S i).abo := by rw [sigR, ha]; simp [hk]
      have e1 : (sigR S (i + 1)).wrs = updS (sigR S i).wrs (S i).ky ((sigR S i).wrs (S i).ky ++ [(S i).tx]) := by rw [sigR, step_two _ _ hk]; exact (wrote_com _ _).2.2.2.2.2.2
      rw [e0, e1, wl]
      by_cases e : k = (S i).ky
      · subst e; rw [updS_same, if_pos ⟨hk, rfl⟩, List.filter_append, List.filter_append, ih']
      · rw [updS_other _ _ _ _ e, if_neg (fun h => e h.2.symm)]; exact ih'
    · have e0 : (sigR S (i + 1)).abo = (sigR S i).abo := by rw [sigR, ha]; simp [hk]
      have e1 : (sigR S (i + 1)).wrs = (sigR S i).wrs := by simp [sigR, stepR, hk, ended]
      rw [e0, e1, wl, if_neg (by simp [hk])]
      exact ih'
    · have e0 : (sigR S (i + 1)).abo = updI (sigR S i).abo (S i).tx true := by rw [sigR, ha]; simp [hk]
      have e1 : (sigR S (i + 1)).wrs = (sigR S i).wrs := by simp [sigR, stepR, hk, ended]
      rw [e0, e1, wl, if_neg (by simp [hk])]
      have hh : ∀ l : List Int, l.filter (fun u => !updI (sigR S i).abo (S i).tx true u) = (l.filter (fun u => !(sigR S i).abo u)).filter (fun u => !updI (sigR S i).abo (S i).tx true u) := by
        intro l
        rw [List.filter_filter]
        refine List.filter_congr fun u _ => ?_
        by_cases e : u = (S i).tx
        · subst e; simp [updI_same]
        · rw [updI_other _ _ _ _ e]; simp
      rw [hh, ih', ← hh]

theorem srcOf_eq (S : Nat → Stp) (fa : Int → Nat) (k : ByteArray) (i : Nat) : ∀ m, srcOf S fa k i m = (((wl S k m).filter (fun u => !decide (fa u < i))).getLast?).getD (-1) := by
  intro m
  induction m with
  | zero => rfl
  | succ m ih =>
    rw [srcOf, wl]
    by_cases h : (S m).kd = 2 ∧ (S m).ky = k
    · rw [if_pos h, List.filter_append]
      by_cases h2 : fa (S m).tx < i
      · rw [if_neg (fun hh => hh.2.2 h2), ih]; simp [h2]
      · rw [if_pos ⟨h.1, h.2, h2⟩]; simp [h2]
    · rw [if_neg h, if_neg (fun hh => h ⟨hh.1, hh.2.1⟩), ih]

/-- Where the read at i reads from. -/
def from? (S : Nat → Stp) (i : Nat) : Option Int := (dropAb (sigR S i).abo ((sigR S i).wrs (S i).ky)).getLast?

theorem mem_wl {S : Nat → Stp} (k : ByteArray) : ∀ i u, u ∈ wl S k i → ∃ j, j < i ∧ (S j).tx = u := by
  intro i
  induction i with
  | zero => intro u h; simp [wl] at h
  | succ i ih =>
    intro u h
    rw [wl] at h
    split at h
    · rcases List.mem_append.1 h with h | h
      · obtain ⟨j, h1, h2⟩ := ih u h; exact ⟨j, by omega, h2⟩
      · simp at h; exact ⟨i, by omega, h.symm⟩
    · obtain ⟨j, h1, h2⟩ := ih u h; exact ⟨j, by omega, h2⟩

theorem src_from {S : Nat → Stp} {n : Nat} (hp : Plain S n) (i : Nat) (hi : i < n) : srcOf S (fun u => fstN S n 5 u n) (S i).ky i i = (from? S i).getD (-1) ∧ ∀ f, from? S i = some f → 0 ≤ f := by
  have e : from? S i = (((wl S (S i).ky i).filter (fun u => !(sigR S i).abo u)).getLast?) := by
    unfold from?
    rw [dropAb_last, wrs_ok hp (S i).ky i (by omega)]
  have e2 : (wl S (S i).ky i).filter (fun u => !(sigR S i).abo u) = (wl S (S i).ky i).filter (fun u => !decide (fstN S n 5 u n < i)) := by
    refine List.filter_congr fun u _ => ?_
    have h1 := sig_abo hp u i (by omega)
    have h2 := fst_lt S n 5 u i (by omega)
    have h3 : (sigR S i).abo u = decide (fstN S n 5 u n < i) := by
      rw [Bool.eq_iff_iff, h1, decide_eq_true_eq, h2]
    rw [h3]
  refine ⟨by rw [srcOf_eq, e, e2], fun f hf => ?_⟩
  rw [e] at hf
  have hm := List.mem_of_getLast? hf
  obtain ⟨j, h1, h2⟩ := mem_wl _ _ _ (List.mem_filter.1 hm).1
  rw [← h2]
  exact (hp.tx j (by omega)).1

theorem step_one (σ : Sig) (s : Stp) (h : s.kd = 1) : stepR σ s = readTo (seen σ s) s (dropAb σ.abo (σ.wrs s.ky)) := by
  unfold stepR; rw [if_pos h]

theorem cas_law {S : Nat → Stp} {n : Nat} (hp : Plain S n) : ∀ i, i ≤ n → (sigR S i).cas = allTo (okC S n) i := by
  intro i
  induction i with
  | zero => intro _; rfl
  | succ i ih =>
    intro hi
    rw [allTo, ← ih (by omega), sigR]
    rcases hp.kd i (by omega) with hk | hk | hk | hk
    · obtain ⟨h1, h2⟩ := src_from hp i (by omega)
      rw [step_one _ _ hk]
      unfold okC
      simp only [h1]
      unfold readTo
      have hf : (dropAb (sigR S i).abo ((sigR S i).wrs (S i).ky)).getLast? = from? S i := rfl
      rw [hf]
      cases hq : from? S i with
      | none => simp [seen]
      | some f =>
        have h0 := h2 f hq
        have hn : ¬ f < 0 := by omega
        by_cases e : f = (S i).tx
        · simp [e, seen]
        · have hc : (sigR S i).com f = decide (fstN S n 4 f n < i) := by
            rw [Bool.eq_iff_iff, sig_com hp f i (by omega), decide_eq_true_eq, fst_lt S n 4 f i (by omega)]
          simp [e, seen, hc, hk, hn]
    · rw [step_two _ _ hk, (wrote_com _ _).2.2.2.2.1]; simp [seen, okC, hk]
    · simp [stepR, hk, ended, okC]
    · simp [stepR, hk, ended, okC]

/-! Recoverable. -/
theorem fwd_iff (S : Nat → Stp) (t : Int) (c : Nat) : ∀ d j, fwd S t c d j = true ↔ ∀ j', j ≤ j' → j' < j + d → (S j').kd = 4 → (S j').tx = t → (∀ x, j ≤ x → x < j' → ¬ ((S x).kd = 4 ∧ (S x).tx = t)) → c < j' := by
  intro d
  induction d with
  | zero => intro j; simp [fwd]; intros; omega
  | succ d ih =>
    intro j
    rw [fwd]
    by_cases h : (S j).kd = 4 ∧ (S j).tx = t
    · rw [if_pos h, decide_eq_true_eq]
      constructor
      · intro hc j' h1 h2 h3 h4 h5
        rcases Nat.lt_or_ge j j' with h6 | h6
        · exact absurd h (h5 j (Nat.le_refl _) h6)
        · have : j' = j := by omega
          omega
      · intro hh
        exact hh j (Nat.le_refl _) (by omega) h.1 h.2 (fun x h1 h2 => by omega)
    · rw [if_neg h, ih]
      constructor
      · intro hh j' h1 h2 h3 h4 h5
        by_cases e : j' = j
        · subst e; exact absurd ⟨h3, h4⟩ h
        · exact hh j' (by omega) (by omega) h3 h4 (fun x h6 h7 => h5 x (by omega) h7)
      · intro hh j' h1 h2 h3 h4 h5
        refine hh j' (by omega) (by omega) h3 h4 (fun x h6 h7 => ?_)
        by_cases e : x = j
        · subst e; exact h
        · exact h5 x (by omega) h7

/-- The read at i by t reads another's value, f's. -/
def Rd (S : Nat → Stp) (i : Nat) (t f : Int) : Prop := (S i).kd = 1 ∧ (S i).tx = t ∧ from? S i = some f ∧ f ≠ t

theorem rdf_ok {S : Nat → Stp} {n : Nat} (hp : Plain S n) (t f : Int) : ∀ j, j ≤ n → (f ∈ (sigR S j).rdf t ↔ ∃ i, i < j ∧ Rd S i t f) := by
  intro j
  induction j with
  | zero => intro _; simp [sigR, sig0]
  | succ j ih =>
    intro hj
    have ih' := ih (by omega)
    have hs : (∃ i, i < j + 1 ∧ Rd S i t f) ↔ (∃ i, i < j ∧ Rd S i t f) ∨ Rd S j t f := by
      constructor
      · rintro ⟨i, h1, h2⟩
        by_cases e : i = j
        · subst e; exact .inr h2
        · exact .inl ⟨i, by omega, h2⟩
      · rintro (⟨i, h1, h2⟩ | h)
        · exact ⟨i, by omega, h2⟩
        · exact ⟨j, by omega, h⟩
    rw [hs, ← ih']
    rcases hp.kd j (by omega) with hk | hk | hk | hk
    · rw [sigR, step_one _ _ hk]
      unfold readTo
      have hf : (dropAb (sigR S j).abo ((sigR S j).wrs (S j).ky)).getLast? = from? S j := rfl
      rw [hf]
      cases hq : from? S j with
      | none => simp [seen, Rd, hq]
      | some g =>
        by_cases e : g = (S j).tx
        · simp only [e, beq_self_eq_true, if_true]
          simp only [seen, Rd, hq]
          constructor
          · exact .inl
          · rintro (h | ⟨_, h2, h3, h4⟩)
            · exact h
            · exfalso; simp at h3; exact h4 (by rw [← h3, e, h2])
        · have e' : (g == (S j).tx) = false := by simpa using e
          simp only [e', Bool.false_eq_true, if_false]
          simp only [seen, Rd, hq]
          by_cases e2 : t = (S j).tx
          · subst e2
            rw [updI_same]
            simp [hk]
            constructor
            · rintro (h | h)
              · exact .inl h
              · exact .inr ⟨h.symm, by rw [h]; exact e⟩
            · rintro (h | h)
              · exact .inl h
              · exact .inr h.1.symm
          · rw [updI_other _ _ _ _ e2]
            constructor
            · exact .inl
            · rintro (h | h)
              · exact h
              · exact absurd h.2.1.symm e2
    · rw [sigR, step_two _ _ hk, (wrote_com _ _).2.2.2.2.2.1]; simp [seen, Rd, hk]
    · simp [sigR, stepR, hk, ended, Rd]
    · simp [sigR, stepR, hk, ended, Rd]

theorem rcv_iff {S : Nat → Stp} {n : Nat} (hp : Plain S n) : ∀ m, m ≤ n → ((sigR S m).rcv = true ↔ ∀ j, j < m → (S j).kd = 4 → ∀ f, f ∈ (sigR S j).rdf (S j).tx → Ev S 4 f (j + 1)) := by
  intro m
  induction m with
  | zero => intro _; simp [sigR, sig0]
  | succ m ih =>
    intro hm
    have ih' := ih (by omega)
    have hs : (∀ j, j < m + 1 → (S j).kd = 4 → ∀ f, f ∈ (sigR S j).rdf (S j).tx → Ev S 4 f (j + 1)) ↔ (sigR S m).rcv = true ∧ ((S m).kd = 4 → ∀ f, f ∈ (sigR S m).rdf (S m).tx → Ev S 4 f (m + 1)) := by
      rw [ih']
      constructor
      · intro h; exact ⟨fun j hj => h j (by omega), h m (by omega)⟩
      · rintro ⟨h1, h2⟩ j hj
        by_cases e : j = m
        · subst e; exact h2
        · exact h1 j (by omega)
    rw [hs]
    rcases hp.kd m (by omega) with hk | hk | hk | hk
    · rw [sigR, step_one _ _ hk, (readTo_com _ _ _).2.2.2.2.2.1]; simp [seen, hk]
    · rw [sigR, step_two _ _ hk, (wrote_com _ _).2.2.2.1]; simp [seen, hk]
    · have : (sigR S (m + 1)).rcv = ((sigR S m).rcv && ((sigR S m).rdf (S m).tx).all (updI (sigR S m).com (S m).tx true)) := by simp [sigR, stepR, hk]
      rw [this, Bool.and_eq_true, List.all_eq_true]
      refine and_congr_right fun _ => ?_
      constructor
      · intro h _ f hf
        have := h f hf
        rw [Ev_succ]
        by_cases e : f = (S m).tx
        · exact .inr ⟨hk, e.symm⟩
        · rw [updI_other _ _ _ _ e] at this
          exact .inl ((sig_com hp f m (by omega)).1 this)
      · intro h f hf
        have := h hk f hf
        rw [Ev_succ] at this
        by_cases e : f = (S m).tx
        · subst e; exact updI_same _ _ _
        · rw [updI_other _ _ _ _ e]
          rcases this with h' | h'
          · exact (sig_com hp f m (by omega)).2 h'
          · exact absurd h'.2.symm e
    · have : (sigR S (m + 1)).rcv = (sigR S m).rcv := by simp [sigR, stepR, hk, ended]
      rw [this]; simp [hk]

theorem allTo_iff (p : Nat → Bool) : ∀ n, allTo p n = true ↔ ∀ i, i < n → p i = true := by
  intro n
  induction n with
  | zero => simp [allTo]
  | succ n ih =>
    rw [allTo, Bool.and_eq_true, ih]
    constructor
    · rintro ⟨h1, h2⟩ i hi
      by_cases e : i = n
      · subst e; exact h2
      · exact h1 i (by omega)
    · intro h; exact ⟨fun i hi => h i (by omega), h n (by omega)⟩

theorem least_from (p : Nat → Prop) (a : Nat) : ∀ d, p (a + d) → ∃ x, a ≤ x ∧ x ≤ a + d ∧ p x ∧ ∀ y, a ≤ y → y < x → ¬ p y := by
  intro d
  induction d using Nat.strongRecOn with
  | _ d ih =>
    intro hp
    by_cases h : ∃ e, e < d ∧ p (a + e)
    · obtain ⟨e, he, hpe⟩ := h
      obtain ⟨x, h1, h2, h3⟩ := ih e he hpe
      exact ⟨x, h1, by omega, h3⟩
    · refine ⟨a + d, by omega, Nat.le_refl _, hp, fun y h1 h2 h3 => h ⟨y - a, by omega, ?_⟩⟩
      rw [show a + (y - a) = y by omega]
      exact h3

theorem rcv_law {S : Nat → Stp} {n : Nat} (hp : Plain S n) : (sigR S n).rcv = modR S n := by
  rw [Bool.eq_iff_iff, rcv_iff hp n (Nat.le_refl _)]
  unfold modR
  rw [allTo_iff]
  have key : ∀ i, i < n → ∀ f, from? S i = some f → (S i).kd = 1 → f ≠ (S i).tx → (okR S n i = true ↔ fwd S (S i).tx (fstN S n 4 f n) (n - (i + 1)) (i + 1) = true) := by
    intro i hi f hf hk hne
    obtain ⟨h1, h2⟩ := src_from hp i hi
    unfold okR
    simp only [h1, hf, Option.getD_some]
    have := h2 f hf
    have hn : ¬ f < 0 := by omega
    simp [hk, hn, hne]
  constructor
  · intro h i hi
    by_cases hk : (S i).kd = 1
    · obtain ⟨h1, h2⟩ := src_from hp i hi
      cases hq : from? S i with
      | none => unfold okR; simp [h1, hq]
      | some f =>
        by_cases e : f = (S i).tx
        · unfold okR; simp [h1, hq, e]
        · rw [key i hi f hq hk e, fwd_iff]
          intro j' h3 h4 h5 h6 _
          have hm : f ∈ (sigR S j').rdf (S j').tx := (rdf_ok hp _ _ j' (by omega)).2 ⟨i, by omega, hk, h6.symm, hq, by rw [h6]; exact e⟩
          have := h j' (by omega) h5 f hm
          rw [Ev_succ] at this
          rcases this with h' | h'
          · exact (fst_lt S n 4 f j' (by omega)).2 h'
          · exfalso; exact e (by rw [← h6]; exact h'.2.symm)
    · unfold okR; simp [hk]
  · intro h j hj hk f hf
    obtain ⟨i, hi, hr1, hr2, hr3, hr4⟩ := (rdf_ok hp _ _ j (by omega)).1 hf
    have ho := (key i (by omega) f hr3 hr1 (by rw [hr2]; exact hr4)).1 (h i (by omega))
    rw [fwd_iff] at ho
    obtain ⟨x, h1, h2, h3, h4⟩ := least_from (fun x => (S x).kd = 4 ∧ (S x).tx = (S i).tx) (i + 1) (j - (i + 1)) (by
      rw [show i + 1 + (j - (i + 1)) = j by omega]
      exact ⟨hk, hr2.symm⟩)
    have hc := ho x h1 (by omega) h3.1 h3.2 h4
    exact ((fst_lt S n 4 f x (by omega)).1 hc).mono (by omega)

/-- THE LAW. -/
theorem law {S : Nat → Stp} {n : Nat} (hp : Plain S n) : (sigR S n).rcv = modR S n ∧ (sigR S n).cas = modC S n ∧ (sigR S n).str = modS S n :=
  ⟨rcv_law hp, cas_law hp n (Nat.le_refl _), str_law hp n (Nat.le_refl _)⟩

end Go.Proofs.Ybulkdao
