/-
  The plain mathematics of the edit distance: no Go in sight.
-/
import Derived.Below
namespace Go.Proofs.Ybulkcxi.Lev

def lin (f : List UInt8 → Nat) (x : UInt8) (n : Nat) : List UInt8 → Nat
  | [] => n
  | y :: ys => min (f ys + if x = y then 0 else 1) (min (f (y :: ys) + 1) (lin f x n ys + 1))
/-- The edit distance, from the front. -/
def L : List UInt8 → List UInt8 → Nat
  | [], ys => ys.length
  | x :: xs, ys => lin (L xs) x (xs.length + 1) ys

theorem L_nil (ys : List UInt8) : L [] ys = ys.length := rfl
theorem L_nil' (xs : List UInt8) : L xs [] = xs.length := by cases xs <;> rfl
theorem L_cons (x y : UInt8) (xs ys : List UInt8) : L (x :: xs) (y :: ys) = min (L xs ys + if x = y then 0 else 1) (min (L xs (y :: ys) + 1) (L (x :: xs) ys + 1)) := rfl

theorem L_left (x : UInt8) (xs ys : List UInt8) : L (x :: xs) ys ≤ L xs ys + 1 := by
  cases ys with
  | nil => rw [L_nil', L_nil']; simp
  | cons y ys => rw [L_cons]; omega
theorem L_right (y : UInt8) (xs ys : List UInt8) : L xs (y :: ys) ≤ L xs ys + 1 := by
  cases xs with
  | nil => rw [L_nil, L_nil]; simp
  | cons x xs => rw [L_cons]; omega

/-- What one place of an alignment costs. -/
def co : Option UInt8 × Option UInt8 → Nat
  | (some x, some y) => if x = y then 0 else 1
  | _ => 1
def cost : List (Option UInt8 × Option UInt8) → Nat
  | [] => 0
  | p :: al => co p + cost al

theorem cost_append (al bl : List (Option UInt8 × Option UInt8)) : cost (al ++ bl) = cost al + cost bl := by
  induction al with
  | nil => simp [cost]
  | cons p al ih => simp [cost, ih]; omega
theorem cost_reverse (al : List (Option UInt8 × Option UInt8)) : cost al.reverse = cost al := by
  induction al with
  | nil => rfl
  | cons p al ih => rw [List.reverse_cons, cost_append, ih]; simp [cost]; omega
theorem co_swap (p : Option UInt8 × Option UInt8) : co p.swap = co p := by
  rcases p with ⟨_ | x, _ | y⟩ <;> simp [co, eq_comm]
theorem cost_swap (al : List (Option UInt8 × Option UInt8)) : cost (al.map Prod.swap) = cost al := by
  induction al with
  | nil => rfl
  | cons p al ih => simp [cost, ih, co_swap]

theorem L_le (al : List (Option UInt8 × Option UInt8)) : L (al.filterMap Prod.fst) (al.filterMap Prod.snd) ≤ cost al := by
  induction al with
  | nil => simp [L, cost]
  | cons p al ih =>
    rcases p with ⟨_ | x, _ | y⟩
    · simp [cost, co]; omega
    · have := L_right y (al.filterMap Prod.fst) (al.filterMap Prod.snd)
      simp [cost, co]; omega
    · have := L_left x (al.filterMap Prod.fst) (al.filterMap Prod.snd)
      simp [cost, co]; omega
    · have := L_cons x y (al.filterMap Prod.fst) (al.filterMap Prod.snd)
      simp [cost, co]; omega

theorem L_ex (xs : List UInt8) : ∀ ys, ∃ al : List (Option UInt8 × Option UInt8), al.filterMap Prod.fst = xs ∧ al.filterMap Prod.snd = ys ∧ cost al = L xs ys := by
  induction xs with
  | nil =>
    intro ys
    induction ys with
    | nil => exact ⟨[], rfl, rfl, rfl⟩
    | cons y ys ih =>
      obtain ⟨al, h1, h2, h3⟩ := ih
      exact ⟨(none, some y) :: al, by simpa using h1, by simpa using h2, by simp [cost, co, h3, L]; omega⟩
  | cons x xs ihx =>
    intro ys
    induction ys with
    | nil =>
      obtain ⟨al, h1, h2, h3⟩ := ihx []
      exact ⟨(some x, none) :: al, by simpa using h1, by simpa using h2, by rw [L_nil'] at h3 ⊢; simp [cost, co, h3]; omega⟩
    | cons y ys ihy =>
      rcases (show L (x :: xs) (y :: ys) = L xs ys + (if x = y then 0 else 1) ∨ L (x :: xs) (y :: ys) = L xs (y :: ys) + 1 ∨ L (x :: xs) (y :: ys) = L (x :: xs) ys + 1 by rw [L_cons]; omega) with h | h | h
      · obtain ⟨al, h1, h2, h3⟩ := ihx ys
        exact ⟨(some x, some y) :: al, by simpa using h1, by simpa using h2, by simp [cost, co, h3, h]; omega⟩
      · obtain ⟨al, h1, h2, h3⟩ := ihx (y :: ys)
        exact ⟨(some x, none) :: al, by simpa using h1, by simpa using h2, by simp [cost, co, h3, h]; omega⟩
      · obtain ⟨al, h1, h2, h3⟩ := ihy
        exact ⟨(none, some y) :: al, by simpa using h1, by simpa using h2, by simp [cost, co, h3, h]; omega⟩

theorem L_rev_le (xs ys : List UInt8) : L xs.reverse ys.reverse ≤ L xs ys := by
  obtain ⟨al, h1, h2, h3⟩ := L_ex xs ys
  have := L_le al.reverse
  rw [List.filterMap_reverse, List.filterMap_reverse, h1, h2, cost_reverse, h3] at this
  exact this
theorem L_rev (xs ys : List UInt8) : L xs.reverse ys.reverse = L xs ys := by
  have h1 := L_rev_le xs ys
  have h2 := L_rev_le xs.reverse ys.reverse
  simp only [List.reverse_reverse] at h2
  omega
theorem L_sym_le (xs ys : List UInt8) : L ys xs ≤ L xs ys := by
  obtain ⟨al, h1, h2, h3⟩ := L_ex xs ys
  have := L_le (al.map Prod.swap)
  rw [List.filterMap_map, List.filterMap_map, cost_swap, h3] at this
  have e1 : (Prod.fst ∘ Prod.swap : Option UInt8 × Option UInt8 → Option UInt8) = Prod.snd := by funext p; rfl
  have e2 : (Prod.snd ∘ Prod.swap : Option UInt8 × Option UInt8 → Option UInt8) = Prod.fst := by funext p; rfl
  rw [e1, e2, h1, h2] at this
  exact this
theorem L_sym (xs ys : List UInt8) : L xs ys = L ys xs := by
  have h1 := L_sym_le xs ys
  have h2 := L_sym_le ys xs
  omega
theorem L_self (xs : List UInt8) : L xs xs = 0 := by
  induction xs with
  | nil => rfl
  | cons x xs ih => rw [L_cons, ih]; simp
theorem L_zero (xs : List UInt8) : ∀ ys, L xs ys = 0 → xs = ys := by
  induction xs with
  | nil => intro ys h; rw [L_nil] at h; exact (List.length_eq_zero_iff.1 h).symm
  | cons x xs ih =>
    intro ys h
    cases ys with
    | nil => rw [L_nil'] at h; simp at h
    | cons y ys =>
      rw [L_cons] at h
      by_cases e : x = y
      · subst e
        rw [ih ys (by simp at h; omega)]
      · simp [e] at h
theorem L_max (xs : List UInt8) : ∀ ys, L xs ys ≤ max xs.length ys.length := by
  induction xs with
  | nil => intro ys; rw [L_nil]; simp
  | cons x xs ih =>
    intro ys
    cases ys with
    | nil => rw [L_nil']; simp
    | cons y ys =>
      have := ih ys
      have h2 := L_cons x y xs ys
      have h3 : (if x = y then 0 else 1) ≤ 1 := by split <;> omega
      simp only [List.length_cons]
      omega
theorem L_min (xs : List UInt8) : ∀ ys, xs.length ≤ L xs ys + ys.length := by
  induction xs with
  | nil => intro ys; simp
  | cons x xs ihx =>
    intro ys
    induction ys with
    | nil => rw [L_nil']; simp
    | cons y ys ihy =>
      have h1 := ihx ys
      have h2 := ihx (y :: ys)
      have h3 := L_cons x y xs ys
      simp only [List.length_cons] at *
      omega

/-- The distance of the first i from the first j. -/
def P (al bl : List UInt8) (i j : Nat) : Nat := L (al.take i).reverse (bl.take j).reverse
/-- The distance of what is left from i on from what is left from j on. -/
def S (al bl : List UInt8) (i j : Nat) : Nat := L (al.drop i) (bl.drop j)

theorem P_zero (al bl : List UInt8) (j : Nat) (h : j ≤ bl.length) : P al bl 0 j = j := by simp [P, L_nil]; omega
theorem P_zero' (al bl : List UInt8) (i : Nat) (h : i ≤ al.length) : P al bl i 0 = i := by simp [P, L_nil']; omega
theorem take_succ_rev (al : List UInt8) (i : Nat) (h : i < al.length) : (al.take (i + 1)).reverse = al[i] :: (al.take i).reverse := by
  rw [List.take_succ_eq_append_getElem h]; simp
theorem P_succ (al bl : List UInt8) (i j : Nat) (hi : i < al.length) (hj : j < bl.length) :
    P al bl (i + 1) (j + 1) = min (P al bl i j + if al[i] = bl[j] then 0 else 1) (min (P al bl i (j + 1) + 1) (P al bl (i + 1) j + 1)) := by
  unfold P
  rw [take_succ_rev al i hi, take_succ_rev bl j hj, L_cons]
theorem P_le (al bl : List UInt8) (i j : Nat) : P al bl i j ≤ max al.length bl.length := by
  have := L_max (al.take i).reverse (bl.take j).reverse
  simp at this
  unfold P
  omega
theorem P_end (al bl : List UInt8) : P al bl al.length bl.length = L al bl := by simp [P, L_rev]
theorem S_end (al bl : List UInt8) (j : Nat) : S al bl al.length j = bl.length - j := by simp [S, L_nil]
theorem S_end' (al bl : List UInt8) (i : Nat) : S al bl i bl.length = al.length - i := by simp [S, L_nil']
theorem S_succ (al bl : List UInt8) (i j : Nat) (hi : i < al.length) (hj : j < bl.length) :
    S al bl i j = min (S al bl (i + 1) (j + 1) + if al[i] = bl[j] then 0 else 1) (min (S al bl (i + 1) j + 1) (S al bl i (j + 1) + 1)) := by
  unfold S
  rw [List.drop_eq_getElem_cons hi, List.drop_eq_getElem_cons hj, L_cons]
theorem S_le (al bl : List UInt8) (i j : Nat) : S al bl i j ≤ max al.length bl.length := by
  have := L_max (al.drop i) (bl.drop j)
  simp at this
  unfold S
  omega
theorem S_zero (al bl : List UInt8) : S al bl 0 0 = L al bl := by simp [S]

end Go.Proofs.Ybulkcxi.Lev
