/-
  What the walk of zzs0196amodel (function 8) stands on.
-/
import Derived.Test.YbulkdaoReads
import Derived.Deep.CutBlock
namespace Go.Proofs.Ybulkdao
open Go.RowKit

/-- An array of four ints. -/
structure Arr4 (b : Nat) (f : Nat → Nat) (w : World) : Prop where
  blk : w.heap[b]? = some (.cells #[.int .i64 (f 0 : Nat), .int .i64 (f 1 : Nat), .int .i64 (f 2 : Nat), .int .i64 (f 3 : Nat)] 47 (0, 0))
theorem Arr4.cell {b : Nat} {f : Nat → Nat} {w : World} (h : Arr4 b f w) (j : Nat) (hj : j < 4) : w.cell? ⟨b, j, none⟩ = some (.int .i64 (f j : Nat)) := by
  rcases (show j = 0 ∨ j = 1 ∨ j = 2 ∨ j = 3 by omega) with rfl | rfl | rfl | rfl <;> simp [World.cell?, h.blk]
theorem Arr4.free {b : Nat} {f : Nat → Nat} {w : World} (h : Arr4 b f w) (j : Nat) : w.frozen? ⟨b, j, none⟩ = false := by simp [World.frozen?, h.blk]
theorem Arr4.kept {b : Nat} {f : Nat → Nat} {w w' : World} {row : Option Nat} (h : Arr4 b f w) (hg : w.grownBy w' row) (hne : row ≠ some b) : Arr4 b f w' := ⟨blk_kept hg hne h.blk⟩
theorem Arr4.congr {b : Nat} {f f' : Nat → Nat} {w : World} (h : Arr4 b f w) (e : ∀ j, j < 4 → f j = f' j) : Arr4 b f' w :=
  ⟨by rw [← e 0 (by omega), ← e 1 (by omega), ← e 2 (by omega), ← e 3 (by omega)]; exact h.blk⟩
theorem Arr4.set {b : Nat} {f : Nat → Nat} {w : World} (h : Arr4 b f w) (j : Nat) (hj : j < 4) (v : Nat) : Arr4 b (fun x => if x = j then v else f x) (w.setCell ⟨b, j, none⟩ (.int .i64 (v : Nat))) := by
  have := set_blk h.blk j (.int .i64 (v : Nat))
  refine ⟨this.trans ?_⟩
  rcases (show j = 0 ∨ j = 1 ∨ j = 2 ∨ j = 3 by omega) with rfl | rfl | rfl | rfl <;> simp
theorem Arr4.lt {b : Nat} {f : Nat → Nat} {w : World} (h : Arr4 b f w) : b < w.heap.size := lt_of_block h.blk

/-- What the model holds. -/
structure MI (w0 : World) (bs bA bC : Nat) (fA fC : Nat → Nat) (w : World) : Prop where
  bel : Below bs w0 w
  ord : bs < bA ∧ bA < bC
  res : w.heap[bs]? = some (.cells #[.bool false, .bool false, .bool false] 34 (0, 0))
  a : Arr4 bA fA w
  c : Arr4 bC fC w
theorem MI.lt {w0 : World} {bs bA bC : Nat} {fA fC : Nat → Nat} {w : World} (h : MI w0 bs bA bC fA fC w) : bC < w.heap.size := h.c.lt
theorem MI.grown {w0 : World} {bs bA bC : Nat} {fA fC : Nat → Nat} {w w' : World} {row : Option Nat} (h : MI w0 bs bA bC fA fC w) (hg : w.grownBy w' row) (hr : ∀ k, row = some k → bC < k) : MI w0 bs bA bC fA fC w' := by
  have o := h.ord
  have l := h.lt
  refine ⟨h.bel.grown hg (by omega) (fun k e => by have := hr k e; omega), o, blk_kept hg (fun e => ?_) h.res, h.a.kept hg (fun e => ?_), h.c.kept hg (fun e => ?_)⟩
  all_goals (have := hr _ e; omega)
theorem MI.setA {w0 : World} {bs bA bC : Nat} {fA fC : Nat → Nat} {w : World} (h : MI w0 bs bA bC fA fC w) (j : Nat) (hj : j < 4) (v : Nat) : MI w0 bs bA bC (fun x => if x = j then v else fA x) fC (w.setCell ⟨bA, j, none⟩ (.int .i64 (v : Nat))) := by
  have o := h.ord
  have hg := grown_setCell w ⟨bA, j, none⟩ (.int .i64 (v : Nat))
  have l := h.lt
  exact ⟨h.bel.setCell (by simp; omega) _, o, blk_kept hg (by simp; omega) h.res, h.a.set j hj v, h.c.kept hg (by simp; omega)⟩
theorem MI.setC {w0 : World} {bs bA bC : Nat} {fA fC : Nat → Nat} {w : World} (h : MI w0 bs bA bC fA fC w) (j : Nat) (hj : j < 4) (v : Nat) : MI w0 bs bA bC fA (fun x => if x = j then v else fC x) (w.setCell ⟨bC, j, none⟩ (.int .i64 (v : Nat))) := by
  have o := h.ord
  have hg := grown_setCell w ⟨bC, j, none⟩ (.int .i64 (v : Nat))
  have l := h.lt
  exact ⟨h.bel.setCell (by simp; omega) _, o, blk_kept hg (by simp; omega) h.res, h.a.kept hg (by simp; omega), h.c.set j hj v⟩
theorem MI.congr {w0 : World} {bs bA bC : Nat} {fA fC fA' fC' : Nat → Nat} {w : World} (h : MI w0 bs bA bC fA fC w) (e1 : ∀ j, j < 4 → fA j = fA' j) (e2 : ∀ j, j < 4 → fC j = fC' j) : MI w0 bs bA bC fA' fC' w :=
  ⟨h.bel, h.ord, h.res, h.a.congr e1, h.c.congr e2⟩
theorem mi_start (w : World) : MI w w.heap.size (w.heap.size + 1) (w.heap.size + 1 + 1) (fun _ => 0) (fun _ => 0) (((w.alloc (.cells #[.bool false, .bool false, .bool false] 34)).alloc (.cells #[.int .i64 0, .int .i64 0, .int .i64 0, .int .i64 0] 47)).alloc (.cells #[.int .i64 0, .int .i64 0, .int .i64 0, .int .i64 0] 47)) := by
  have g := fun (w : World) (o : Obj) => World.grownBy_alloc w o none
  refine ⟨(((Below.refl _ _).alloc (Nat.le_refl _) _).alloc (by simp) _).alloc (by simp; omega) _, by omega, ?_, ⟨?_⟩, ⟨?_⟩⟩
  · refine blk_kept (g _ _) (by simp) (blk_kept (g _ _) (by simp) ?_)
    show (w.heap.push _)[w.heap.size]? = _
    simp
  · refine blk_kept (g _ _) (by simp) ?_
    show (((w.heap.push _).push _)[w.heap.size + 1]?) = _
    rw [Array.getElem?_push, if_pos (by simp)]
    rfl
  · show ((((w.heap.push _).push _).push _)[w.heap.size + 1 + 1]?) = _
    rw [Array.getElem?_push, if_pos (by simp)]
    rfl

/-- .. and its three answers, at block bR. -/
structure MR (w0 : World) (bs bA bC bR : Nat) (fA fC : Nat → Nat) (x y z : Bool) (w : World) : Prop where
  mi : MI w0 bs bA bC fA fC w
  lt : bC < bR
  r : w.heap[bR]? = some (.cells #[.bool x, .bool y, .bool z] 34 (0, 0))
section
variable {w0 : World} {bs bA bC bR : Nat} {fA fC : Nat → Nat} {x y z : Bool} {w w' : World}
theorem MR.grown (h : MR w0 bs bA bC bR fA fC x y z w) (hg : w.grownBy w' none) : MR w0 bs bA bC bR fA fC x y z w' := ⟨h.mi.grown hg (fun k e => by cases e), h.lt, blk_kept hg (by simp) h.r⟩
theorem MR.alloc (h : MR w0 bs bA bC bR fA fC x y z w) (o : Obj) : MR w0 bs bA bC bR fA fC x y z (w.alloc o) := h.grown (World.grownBy_alloc w o none)
theorem MR.drewN (h : MR w0 bs bA bC bR fA fC x y z w) (n : Nat) : MR w0 bs bA bC bR fA fC x y z (w.drewN n) := h.grown (grown_drewN w n)
theorem MR.set0 (h : MR w0 bs bA bC bR fA fC x y z w) (v : Bool) : MR w0 bs bA bC bR fA fC v y z (w.setCell ⟨bR, 0, none⟩ (.bool v)) :=
  ⟨h.mi.grown (grown_setCell w ⟨bR, 0, none⟩ _) (fun k e => by have := h.lt; simp at e; omega), h.lt, set_blk h.r 0 _⟩
theorem MR.set1 (h : MR w0 bs bA bC bR fA fC x y z w) (v : Bool) : MR w0 bs bA bC bR fA fC x v z (w.setCell ⟨bR, 1, none⟩ (.bool v)) :=
  ⟨h.mi.grown (grown_setCell w ⟨bR, 1, none⟩ _) (fun k e => by have := h.lt; simp at e; omega), h.lt, set_blk h.r 1 _⟩
theorem MR.set2 (h : MR w0 bs bA bC bR fA fC x y z w) (v : Bool) : MR w0 bs bA bC bR fA fC x y v (w.setCell ⟨bR, 2, none⟩ (.bool v)) :=
  ⟨h.mi.grown (grown_setCell w ⟨bR, 2, none⟩ _) (fun k e => by have := h.lt; simp at e; omega), h.lt, set_blk h.r 2 _⟩
theorem MR.c0 (h : MR w0 bs bA bC bR fA fC x y z w) : w.cell? ⟨bR, 0, none⟩ = some (.bool x) := by simp [World.cell?, h.r]
theorem MR.c1 (h : MR w0 bs bA bC bR fA fC x y z w) : w.cell? ⟨bR, 1, none⟩ = some (.bool y) := by simp [World.cell?, h.r]
theorem MR.c2 (h : MR w0 bs bA bC bR fA fC x y z w) : w.cell? ⟨bR, 2, none⟩ = some (.bool z) := by simp [World.cell?, h.r]
theorem MR.fr (h : MR w0 bs bA bC bR fA fC x y z w) (j : Nat) : w.frozen? ⟨bR, j, none⟩ = false := by simp [World.frozen?, h.r]
theorem MR.rlt (h : MR w0 bs bA bC bR fA fC x y z w) : bR < w.heap.size := lt_of_block h.r
end

/-- .. and the step at hand, at block bl. -/
structure MRS (w0 : World) (bs bA bC bR bl : Nat) (s : Stp) (fA fC : Nat → Nat) (x y z : Bool) (w : World) : Prop where
  mr : MR w0 bs bA bC bR fA fC x y z w
  lt : bR < bl
  st : StepAt bl s w
section
variable {w0 : World} {bs bA bC bR bl : Nat} {s : Stp} {fA fC : Nat → Nat} {x y z : Bool} {w w' : World}
theorem MRS.grown (h : MRS w0 bs bA bC bR bl s fA fC x y z w) (hg : w.grownBy w' none) : MRS w0 bs bA bC bR bl s fA fC x y z w' := ⟨h.mr.grown hg, h.lt, h.st.kept hg (by simp)⟩
theorem MRS.alloc (h : MRS w0 bs bA bC bR bl s fA fC x y z w) (o : Obj) : MRS w0 bs bA bC bR bl s fA fC x y z (w.alloc o) := h.grown (World.grownBy_alloc w o none)
theorem MRS.drewN (h : MRS w0 bs bA bC bR bl s fA fC x y z w) (n : Nat) : MRS w0 bs bA bC bR bl s fA fC x y z (w.drewN n) := h.grown (grown_drewN w n)
theorem MRS.set0 (h : MRS w0 bs bA bC bR bl s fA fC x y z w) (v : Bool) : MRS w0 bs bA bC bR bl s fA fC v y z (w.setCell ⟨bR, 0, none⟩ (.bool v)) := ⟨h.mr.set0 v, h.lt, h.st.kept (grown_setCell _ _ _) (by have := h.lt; simp; omega)⟩
theorem MRS.set1 (h : MRS w0 bs bA bC bR bl s fA fC x y z w) (v : Bool) : MRS w0 bs bA bC bR bl s fA fC x v z (w.setCell ⟨bR, 1, none⟩ (.bool v)) := ⟨h.mr.set1 v, h.lt, h.st.kept (grown_setCell _ _ _) (by have := h.lt; simp; omega)⟩
theorem MRS.set2 (h : MRS w0 bs bA bC bR bl s fA fC x y z w) (v : Bool) : MRS w0 bs bA bC bR bl s fA fC x y v (w.setCell ⟨bR, 2, none⟩ (.bool v)) := ⟨h.mr.set2 v, h.lt, h.st.kept (grown_setCell _ _ _) (by have := h.lt; simp; omega)⟩
theorem MR.enter (h : MR w0 bs bA bC bR fA fC x y z w) (s : Stp) : MRS w0 bs bA bC bR w.heap.size s fA fC x y z (w.alloc (stepObj s)) := ⟨h.alloc _, h.rlt, StepAt.new s w⟩
end

/-- Of u < 4 the model's strict test says yes. -/
def okU (S : Nat → Stp) (i : Nat) (u : Nat) : Bool := decide ((u : Int) = (S i).tx) || !dirty S u (S i).ky i
theorem okS_four (S : Nat → Stp) (i : Nat) (hk : (S i).kd = 1 ∨ (S i).kd = 2) : okS S i = allTo (okU S i) 4 := by
  unfold okS
  have h0 : ¬ ((S i).kd ≠ 1 ∧ (S i).kd ≠ 2) := by rcases hk with h | h <;> simp [h]
  simp only [h0, decide_false, Bool.false_or, List.all_cons, List.all_nil, Bool.and_true, allTo, Bool.true_and, okU]
  simp only [Bool.and_assoc]
  rfl

end Go.Proofs.Ybulkdao
