/-
  Scans: the plain functions that the walks of reads (function 11) and LawS0196AScan (function 4) compute, and the plain laws on them.
-/
import Derived.Test.YbulkdaoLawPre
import Derived.Shelf.Spec.SearchS
namespace Go.Proofs.Ybulkdao
open Go.RowKit

def dfl : Stp := ⟨0, 0, ⟨#[]⟩, ⟨#[]⟩⟩
/-- The prefix of a k (function 9). -/
def pfxOf3 (k : Int) : ByteArray := if k % 3 = 0 then ⟨#[]⟩ else if k % 3 = 1 then ⟨#[97]⟩ else ⟨#[98]⟩
/-- The steps of LawS0196AScan. -/
def stepS (O : Nat → Nat → Int) (i : Nat) : Stp :=
  if O i 0 % 5 = 4 then { kd := 3, tx := O i 1 % 4, ky := ⟨#[]⟩, px := pfxOf3 (O i 2) }
  else { kd := kindOf (O i 0 % 5), tx := O i 1 % 4, ky := if kindOf (O i 0 % 5) = 1 ∨ kindOf (O i 0 % 5) = 2 then keyOf3 (O i 2) else ⟨#[]⟩, px := ⟨#[]⟩ }
def key3 : List ByteArray := [⟨#[97]⟩, ⟨#[97, 98]⟩, ⟨#[98]⟩]
/-- One of the first m steps names k. -/
def namedB (S : Nat → Stp) : Nat → ByteArray → Bool
  | 0, _ => false
  | m + 1, k => namedB S m k || ((S m).ky == k)
/-- The keys that n steps name, in order. -/
def keysL (S : Nat → Stp) (n : Nat) : List ByteArray := key3.filter (namedB S n)
def preB (p k : ByteArray) : Bool := Lib.hasPrefix k.data.toList p.data.toList
def rdOf (s : Stp) (k : ByteArray) : Stp := ⟨1, s.tx, k, ⟨#[]⟩⟩
def exp1 (K : List ByteArray) (s : Stp) : List Stp := if s.kd = 3 then (K.filter (preB s.px)).map (rdOf s) else [s]
/-- The first i steps, each scan laid out. -/
def expL (K : List ByteArray) (S : Nat → Stp) : Nat → List Stp
  | 0 => []
  | i + 1 => expL K S i ++ exp1 K (S i)
def flat (L : List Stp) : List Value := L.flatMap stCells

theorem flat_nil : flat [] = [] := rfl
theorem flat_snoc (L : List Stp) (s : Stp) : flat (L ++ [s]) = flat L ++ stCells s := by simp [flat]
theorem flat_len (L : List Stp) : (flat L).length = L.length * 9 := by
  induction L with
  | nil => rfl
  | cons a r ih => simp only [flat, List.flatMap_cons, List.length_append, stCells_len, List.length_cons] at *; omega
theorem flat_get (L : List Stp) : ∀ i, i < L.length → ∀ j, j < 9 → (flat L)[i * 9 + j]? = some (stCell (L.getD i dfl) j) := by
  induction L with
  | nil => intro i hi; exact absurd hi (by simp)
  | cons a r ih =>
    intro i hi j hj
    show (stCells a ++ flat r)[i * 9 + j]? = _
    cases i with
    | zero =>
      rw [List.getElem?_append_left (by rw [stCells_len]; omega), Nat.zero_mul, Nat.zero_add]
      exact stCells_get a j hj
    | succ i =>
      rw [List.getElem?_append_right (by rw [stCells_len]; omega), stCells_len, show (i + 1) * 9 + j - 9 = i * 9 + j by omega]
      exact ih i (by simpa using hi) j hj
theorem flat_row {L : List Stp} {w : World} {base g cap : Nat} (ho : w.ownsRow base 31 9 (.slice (some ⟨g, 0, none⟩) L.length cap) L.length (flat L)) : StRow g L.length (fun i => L.getD i dfl) w :=
  ⟨fun i hi j hj => by rw [ho.cellAt (i * 9 + j) (by omega)]; exact flat_get L i hi j hj⟩

/-- What a step of a scan's law is: its kind, its transaction, its key, its prefix. -/
structure Scs (s : Stp) : Prop where
  kd : s.kd = 1 ∨ s.kd = 2 ∨ s.kd = 3 ∨ s.kd = 4 ∨ s.kd = 5
  tx : 0 ≤ s.tx ∧ s.tx ≤ 3
  ky : s.ky = ⟨#[]⟩ ∨ s.ky ∈ key3
  px : s.px = ⟨#[]⟩ ∨ s.px = ⟨#[97]⟩ ∨ s.px = ⟨#[98]⟩
theorem keyOf3_mem (k : Int) : keyOf3 k ∈ key3 := by
  unfold keyOf3 key3
  split
  · simp
  · split <;> simp
theorem scs_stepS (O : Nat → Nat → Int) (i : Nat) : Scs (stepS O i) := by
  unfold stepS
  split
  · refine ⟨.inr (.inr (.inl rfl)), by show 0 ≤ O i 1 % 4 ∧ O i 1 % 4 ≤ 3; omega, .inl rfl, ?_⟩
    show pfxOf3 (O i 2) = _ ∨ _
    unfold pfxOf3
    split
    · exact .inl rfl
    · split
      · exact .inr (.inl rfl)
      · exact .inr (.inr rfl)
  · refine ⟨?_, by show 0 ≤ O i 1 % 4 ∧ O i 1 % 4 ≤ 3; omega, ?_, .inl rfl⟩
    · rcases kindOf_rng (O i 0 % 5) with h | h | h | h
      · exact .inl h
      · exact .inr (.inl h)
      · exact .inr (.inr (.inr (.inl h)))
      · exact .inr (.inr (.inr (.inr h)))
    · show (if kindOf (O i 0 % 5) = 1 ∨ kindOf (O i 0 % 5) = 2 then keyOf3 (O i 2) else ⟨#[]⟩) = _ ∨ (if kindOf (O i 0 % 5) = 1 ∨ kindOf (O i 0 % 5) = 2 then keyOf3 (O i 2) else ⟨#[]⟩) ∈ key3
      split
      · exact .inr (keyOf3_mem _)
      · exact .inl rfl

theorem expL_plain (K : List ByteArray) (S : Nat → Stp) (h : ∀ i, Scs (S i)) : ∀ n, ∀ s ∈ expL K S n, (s.kd = 1 ∨ s.kd = 2 ∨ s.kd = 4 ∨ s.kd = 5) ∧ 0 ≤ s.tx ∧ s.tx ≤ 3 := by
  intro n
  induction n with
  | zero => intro s hs; exact absurd hs (by simp [expL])
  | succ n ih =>
    intro s hs
    unfold expL at hs
    rcases List.mem_append.1 hs with q | q
    · exact ih s q
    · unfold exp1 at q
      split at q
      · obtain ⟨k, _, rfl⟩ := List.mem_map.1 q
        exact ⟨.inl rfl, (h n).tx⟩
      · rename_i h3
        obtain rfl := List.mem_singleton.1 q
        refine ⟨?_, (h n).tx⟩
        rcases (h n).kd with q | q | q | q | q
        · exact .inl q
        · exact .inr (.inl q)
        · exact absurd q h3
        · exact .inr (.inr (.inl q))
        · exact .inr (.inr (.inr q))
theorem plain_expL (K : List ByteArray) (S : Nat → Stp) (h : ∀ i, Scs (S i)) (n : Nat) : Plain (fun i => (expL K S n).getD i dfl) (expL K S n).length := by
  have key : ∀ i, i < (expL K S n).length → (expL K S n).getD i dfl ∈ expL K S n := fun i hi => by
    rw [List.getD_eq_getElem?_getD, List.getElem?_eq_getElem hi]
    exact List.getElem_mem hi
  exact ⟨fun i hi => (expL_plain K S h n _ (key i hi)).1, fun i hi => (expL_plain K S h n _ (key i hi)).2⟩
theorem keysL_len (S : Nat → Stp) (n : Nat) : (keysL S n).length ≤ 3 := List.length_filter_le _ _
theorem exp1_len (K : List ByteArray) (hK : K.length ≤ 3) (s : Stp) : (exp1 K s).length ≤ 3 := by
  unfold exp1
  split
  · rw [List.length_map]; exact Nat.le_trans (List.length_filter_le _ _) hK
  · simp
theorem expL_len (K : List ByteArray) (hK : K.length ≤ 3) (S : Nat → Stp) : ∀ n, (expL K S n).length ≤ 3 * n := by
  intro n
  induction n with
  | zero => simp [expL]
  | succ n ih =>
    unfold expL
    rw [List.length_append]
    have := exp1_len K hK (S n)
    omega
/-- No scan: the very steps. -/
theorem expL_none (K : List ByteArray) (S : Nat → Stp) : ∀ n, (∀ i, i < n → (S i).kd ≠ 3) → (expL K S n).length = n ∧ ∀ i, i < n → (expL K S n).getD i dfl = S i := by
  intro n
  induction n with
  | zero => intro _; exact ⟨rfl, fun i hi => absurd hi (by omega)⟩
  | succ n ih =>
    intro h
    obtain ⟨h1, h2⟩ := ih fun i hi => h i (by omega)
    have e : expL K S (n + 1) = expL K S n ++ [S n] := by
      show expL K S n ++ exp1 K (S n) = _
      unfold exp1
      rw [if_neg (h n (by omega))]
    rw [e]
    refine ⟨by simp [h1], fun i hi => ?_⟩
    rw [List.getD_eq_getElem?_getD]
    by_cases hin : i < n
    · rw [List.getElem?_append_left (by omega), ← List.getD_eq_getElem?_getD]
      exact h2 i hin
    · obtain rfl : i = n := by omega
      rw [List.getElem?_append_right (by omega), h1]
      simp

/-- What function 4 appends for a scan, key by key. -/
def part (B : ByteArray → Bool) (s : Stp) : Nat → List Stp
  | 0 => []
  | j + 1 => part B s j ++ (if B (keyOf3 j) && preB s.px (keyOf3 j) then [rdOf s (keyOf3 j)] else [])
theorem part3 (B : ByteArray → Bool) (s : Stp) (h : s.kd = 3) : part B s 3 = exp1 (key3.filter B) s := by
  unfold exp1
  rw [if_pos h]
  have e0 : keyOf3 ((0 : Nat) : Int) = ⟨#[97]⟩ := rfl
  have e1 : keyOf3 ((1 : Nat) : Int) = ⟨#[97, 98]⟩ := rfl
  have e2 : keyOf3 ((2 : Nat) : Int) = ⟨#[98]⟩ := rfl
  simp only [part, e0, e1, e2, key3, List.nil_append]
  generalize (⟨#[97]⟩ : ByteArray) = a
  generalize (⟨#[97, 98]⟩ : ByteArray) = b
  generalize (⟨#[98]⟩ : ByteArray) = c
  cases ha : B a <;> cases hb : B b <;> cases hc : B c <;> simp [List.filter, ha, hb, hc] <;> cases preB s.px a <;> cases preB s.px b <;> cases preB s.px c <;> simp
theorem part_len (B : ByteArray → Bool) (s : Stp) (j : Nat) : (part B s j).length ≤ j := by
  induction j with
  | zero => exact Nat.le_refl _
  | succ j ih =>
    unfold part
    rw [List.length_append]
    split <;> simp <;> omega

/-- slices.BinarySearch over the keys: what is behind its number and begins with the prefix is what begins with it. -/
abbrev bsOf (K : List ByteArray) (p : ByteArray) : Nat := Lib.bsGo (fun t => Op.bytesLess (K.getD t ⟨#[]⟩).toList p.toList) K.length 0 K.length
theorem key3_parts (B : ByteArray → Bool) : key3.filter B = (if B ⟨#[97]⟩ then [⟨#[97]⟩] else []) ++ ((if B ⟨#[97, 98]⟩ then [⟨#[97, 98]⟩] else []) ++ (if B ⟨#[98]⟩ then [⟨#[98]⟩] else [])) := by
  unfold key3
  generalize (⟨#[97]⟩ : ByteArray) = a
  generalize (⟨#[97, 98]⟩ : ByteArray) = b
  generalize (⟨#[98]⟩ : ByteArray) = c
  cases ha : B a <;> cases hb : B b <;> cases hc : B c <;> simp [List.filter, ha, hb, hc]
theorem srch (B : ByteArray → Bool) (p : ByteArray) (hp : p = ⟨#[]⟩ ∨ p = ⟨#[97]⟩ ∨ p = ⟨#[98]⟩) :
    bsOf (key3.filter B) p ≤ (key3.filter B).length ∧ ((key3.filter B).drop (bsOf (key3.filter B) p)).takeWhile (preB p) = (key3.filter B).filter (preB p) := by
  have e : ∀ K : List ByteArray, bsOf K p = Lib.bsGo (fun t => Op.bytesLess (K.getD t ⟨#[]⟩).data.toList p.data.toList) K.length 0 K.length := fun K => by simp only [bsOf, Lib.toList_data]
  rw [e, key3_parts]
  clear e
  generalize B ⟨#[97]⟩ = x
  generalize B ⟨#[97, 98]⟩ = y
  generalize B ⟨#[98]⟩ = z
  rcases hp with rfl | rfl | rfl <;> cases x <;> cases y <;> cases z <;> exact ⟨by decide +kernel, by decide +kernel⟩

end Go.Proofs.Ybulkdao
