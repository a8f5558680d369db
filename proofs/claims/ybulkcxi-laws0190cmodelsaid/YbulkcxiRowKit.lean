/-
  A block of integers of the call's own, by what its cells hold.
-/
import Derived.Test.YbulkcxiRows
import Derived.WalkKit
import Derived.WalkSpells
import Derived.OwnWalk
import Derived.Laws.OwnMore
import Derived.OneCell
import Derived.Deep.QuietTactic
import Derived.BigQuiet
namespace Go.Proofs.Ybulkcxi
open Go.RowKit

/-- Block g of wr holds n integers, the j-th f j. -/
structure Row (g n : Nat) (f : Nat → Nat) (wr : World) : Prop where
  blk : ∃ cs : Array Value, wr.heap[g]? = some (.cells cs 3 (0, 0)) ∧ cs.size = n ∧ ∀ j, j < n → cs[j]? = some (.int .i64 (f j : Int))

theorem Row.cell {g n : Nat} {f : Nat → Nat} {wr : World} (h : Row g n f wr) (j : Nat) (hj : j < n) : wr.cell? ⟨g, j, none⟩ = some (.int .i64 (f j : Int)) := by
  obtain ⟨cs, h1, h2, h3⟩ := h.blk
  simp [World.cell?, h1, h3 j hj]
theorem Row.free {g n : Nat} {f : Nat → Nat} {wr : World} (h : Row g n f wr) (j : Nat) : wr.frozen? ⟨g, j, none⟩ = false := by
  obtain ⟨cs, h1, h2, h3⟩ := h.blk
  simp [World.frozen?, h1]
theorem Row.lt {g n : Nat} {f : Nat → Nat} {wr : World} (h : Row g n f wr) : g < wr.heap.size := by
  obtain ⟨cs, h1, h2, h3⟩ := h.blk
  exact lt_of_block h1
theorem Row.congr {g n : Nat} {f f' : Nat → Nat} {wr : World} (h : Row g n f wr) (e : ∀ j, j < n → f j = f' j) : Row g n f' wr := by
  obtain ⟨cs, h1, h2, h3⟩ := h.blk
  exact ⟨cs, h1, h2, fun j hj => by rw [← e j hj]; exact h3 j hj⟩
theorem Row.drewN {g n : Nat} {f : Nat → Nat} {wr : World} (h : Row g n f wr) (k : Nat) : Row g n f (wr.drewN k) := ⟨h.blk⟩
theorem Row.drew {g n : Nat} {f : Nat → Nat} {wr : World} (h : Row g n f wr) : Row g n f wr.drew := ⟨h.blk⟩
theorem Row.other {g n : Nat} {f : Nat → Nat} {wr : World} (h : Row g n f wr) (a : Addr) (v : Value) (hg : g ≠ a.block) : Row g n f (wr.setCell a v) := by
  obtain ⟨cs, h1, h2, h3⟩ := h.blk
  exact ⟨cs, by rw [Below.heap_setCell _ _ _ _ hg]; exact h1, h2, h3⟩
theorem Row.grown {g n : Nat} {f : Nat → Nat} {wr w' : World} (h : Row g n f wr) (hg : wr.grownBy w' none) : Row g n f w' := by
  obtain ⟨cs, h1, h2, h3⟩ := h.blk
  exact ⟨cs, by rw [hg.block g (lt_of_block h1) (fun e => by cases e)]; exact h1, h2, h3⟩
theorem Row.set {g n : Nat} {f : Nat → Nat} {wr : World} (h : Row g n f wr) (i : Nat) (v : Nat) : Row g n (fun j => if j = i then v else f j) (wr.setCell ⟨g, i, none⟩ (.int .i64 (v : Int))) := by
  obtain ⟨cs, h1, h2, h3⟩ := h.blk
  have hlt := lt_of_block h1
  have h' : wr.heap[g] = .cells cs 3 (0, 0) := by simpa [Array.getElem?_eq_getElem hlt] using h1
  refine ⟨cs.setIfInBounds i (.int .i64 (v : Int)), ?_, by simpa using h2, fun j hj => ?_⟩
  · show (wr.heap.modify g _)[g]? = _
    rw [Array.getElem?_eq_getElem (by simpa using hlt), Array.getElem_modify_self, h']
    rfl
  · rw [Array.getElem?_setIfInBounds]
    by_cases e : i = j
    · subst e
      simp [h2, hj]
    · rw [if_neg e, h3 j hj, if_neg (fun h => e h.symm)]
theorem Row.made {n : Nat} {w w1 : World} (h : w1.ownsRow w.heap.size 3 1 (.slice (some ⟨w.heap.size, 0, none⟩) n n) n (madeCells (Value.int .i64 0).cells (n * 1)).toList) : Row w.heap.size n (fun _ => 0) w1 := by
  have e : (madeCells (Value.int .i64 0).cells (n * 1)).toList = List.replicate n (Value.int .i64 0) := by
    rw [Nat.mul_one]
    have := toList_madeCells_one (.int .i64 0) n
    simpa [Value.cells] using this
  rw [e] at h
  rcases h.2 with ⟨h', _⟩ | ⟨g', cap', cur, h', hb, hg, hnc, hcm, hcs, htake⟩
  · simp at h'
  · simp only [Value.slice.injEq, Option.some.injEq, Addr.mk.injEq, and_true, true_and] at h'
    obtain ⟨rfl, rfl⟩ := h'
    refine ⟨cur, hg, by omega, fun j hj => ?_⟩
    have h4 : cur.toList = List.replicate n (Value.int .i64 0) := by
      rw [List.take_of_length_le (by simp; omega)] at htake
      exact htake
    rw [← Array.getElem?_toList, h4]
    simp [hj]

theorem Yba.info3 : (Yba.prog.info? 3).map (fun i => (i.zero, i.size, i.bytes)) = some (some (.int .i64 0), 1, 8) := by kernel_rfl

end Go.Proofs.Ybulkcxi
