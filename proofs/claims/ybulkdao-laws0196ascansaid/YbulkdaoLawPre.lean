/-
  What the walks of the two laws (functions 3, 4) stand on: rows of steps that grow.
-/
import Derived.Test.YbulkdaoModPre
namespace Go.Proofs.Ybulkdao
open Go.RowKit

theorem Yba.info31 : (Yba.prog.info? 31).map (fun i => (i.zero, i.size, i.bytes)) = some (some (.agg #[.int .u8 0, .int .i64 0, .string ⟨#[]⟩, .string ⟨#[]⟩, .string ⟨#[]⟩, .int .u8 0, .int .i64 0, .int .i64 0, .string ⟨#[]⟩]), 9, 104) := by kernel_rfl

/-- A step's nine cells. -/
def stCells (s : Stp) : List Value := [.int .u8 s.kd, .int .i64 s.tx, .string s.ky, .string s.px, .string ⟨#[]⟩, .int .u8 0, .int .i64 0, .int .i64 0, .string ⟨#[]⟩]
theorem stCells_get (s : Stp) (j : Nat) (hj : j < 9) : (stCells s)[j]? = some (stCell s j) := by
  rcases (show j = 0 ∨ j = 1 ∨ j = 2 ∨ j = 3 ∨ j = 4 ∨ j = 5 ∨ j = 6 ∨ j = 7 ∨ j = 8 by omega) with rfl | rfl | rfl | rfl | rfl | rfl | rfl | rfl | rfl <;> rfl
theorem stCells_len (s : Stp) : (stCells s).length = 9 := rfl

/-- The cells of m steps. -/
structure StList (xs : List Value) (m : Nat) (S : Nat → Stp) : Prop where
  len : xs.length = m * 9
  get : ∀ i, i < m → ∀ j, j < 9 → xs[i * 9 + j]? = some (stCell (S i) j)
theorem StList.nil (S : Nat → Stp) : StList [] 0 S := ⟨rfl, fun i h => absurd h (by omega)⟩
theorem StList.snoc {xs : List Value} {m : Nat} {S : Nat → Stp} (h : StList xs m S) (s : Stp) (hs : S m = s) : StList (xs ++ stCells s) (m + 1) S := by
  refine ⟨by rw [List.length_append, h.len, stCells_len]; omega, fun i hi j hj => ?_⟩
  by_cases him : i < m
  · rw [List.getElem?_append_left (by rw [h.len]; omega)]
    exact h.get i him j hj
  · obtain rfl : i = m := by omega
    rw [List.getElem?_append_right (by rw [h.len]; omega), h.len, hs, show i * 9 + j - i * 9 = j by omega]
    exact stCells_get s j hj
theorem StList.row {xs : List Value} {n : Nat} {S : Nat → Stp} (h : StList xs n S) {w : World} {base g cap : Nat} (ho : w.ownsRow base 31 9 (.slice (some ⟨g, 0, none⟩) n cap) n xs) : StRow g n S w :=
  ⟨fun i hi j hj => by rw [ho.cellAt (i * 9 + j) (by omega)]; exact h.get i hi j hj⟩
theorem StList.congr {xs : List Value} {m : Nat} {S S' : Nat → Stp} (h : StList xs m S) (e : ∀ i, i < m → S i = S' i) : StList xs m S' :=
  ⟨h.len, fun i hi j hj => by rw [← e i hi]; exact h.get i hi j hj⟩
/-- A step as it lies: its cells. -/
theorem news_at {s : Stp} {w : World} {b : Nat} (h : StepAt b s w) : ∀ j u, (stCells s)[j]? = some u → w.cell? (Addr.add ⟨b, 0, none⟩ j) = some u := by
  intro j u hu
  have hj : j < 9 := by
    obtain ⟨h, _⟩ := List.getElem?_eq_some_iff.1 hu
    simpa [stCells] using h
  rw [stCells_get s j hj] at hu
  have hb := h.blk
  rcases (show j = 0 ∨ j = 1 ∨ j = 2 ∨ j = 3 ∨ j = 4 ∨ j = 5 ∨ j = 6 ∨ j = 7 ∨ j = 8 by omega) with rfl | rfl | rfl | rfl | rfl | rfl | rfl | rfl | rfl <;> simpa [World.cell?, hb, Addr.add, stCell] using hu
theorem news_step (s : Stp) (w : World) : ∀ j u, (stCells s)[j]? = some u → (w.alloc (.cells #[.int .u8 s.kd, .int .i64 s.tx, .string s.ky, .string s.px, .string ⟨#[]⟩, .int .u8 0, .int .i64 0, .int .i64 0, .string ⟨#[]⟩] 31 (0, 0))).cell? (Addr.add ⟨w.heap.size, 0, none⟩ j) = some u := news_at (StepAt.new s w)
theorem one_step (s : Stp) : ∀ u ∈ stCells s, u.oneCell' = true := by
  intro u hu
  simp only [stCells, List.mem_cons, List.not_mem_nil, or_false] at hu
  rcases hu with rfl | rfl | rfl | rfl | rfl | rfl | rfl | rfl | rfl <;> rfl

/-- The ops as they lie. -/
structure OpRow (g o : Nat) (sp : Option Nat) (n : Nat) (O : Nat → Nat → Int) (w : World) : Prop where
  cell : ∀ i, i < n → ∀ j, j < 3 → w.cell? ⟨g, o + i * 3 + j, sp⟩ = some (.int .u8 (O i j))
theorem OpRow.below {g o n B : Nat} {sp : Option Nat} {O : Nat → Nat → Int} {w w' : World} (h : OpRow g o sp n O w) (hb : Below B w w') (hg : g < B) : OpRow g o sp n O w' :=
  ⟨fun i hi j hj => (hb.cell (p := ⟨g, o + i * 3 + j, sp⟩) hg).trans (h.cell i hi j hj)⟩

/-- The steps of LawS0196AModel. -/
def stepOf (O : Nat → Nat → Int) (i : Nat) : Stp := { kd := kindOf (O i 0), tx := O i 1 % 4, ky := if kindOf (O i 0) = 1 ∨ kindOf (O i 0) = 2 then keyOf3 (O i 2) else ⟨#[]⟩, px := ⟨#[]⟩ }
theorem kindOf_rng (op : Int) : kindOf op = 1 ∨ kindOf op = 2 ∨ kindOf op = 4 ∨ kindOf op = 5 := by
  unfold kindOf
  split
  · exact .inl rfl
  · split
    · exact .inr (.inl rfl)
    · split
      · exact .inr (.inr (.inl rfl))
      · exact .inr (.inr (.inr rfl))
theorem plain_stepOf (O : Nat → Nat → Int) (n : Nat) : Plain (stepOf O) n :=
  ⟨fun i _ => kindOf_rng _, fun i _ => by show 0 ≤ O i 1 % 4 ∧ O i 1 % 4 ≤ 3; omega⟩

end Go.Proofs.Ybulkdao
