/-
  RecoveryOf (function 7): what its walk stands on.
-/
import Derived.Test.YbulkdaoInv2
import Derived.Test.YbulkdaoLaw
import Derived.OwnWalk
import Derived.WalkSmall
import Derived.Deep.LoopGhost
import Derived.Deep.QuietTactic
import Derived.BigQuiet
import Derived.Deep.RegionHeld3
import Derived.Deep.AppendLies
import Derived.Laws.Pointers
import Derived.Deep.Cut
import Derived.Deep.CutRange
import Derived.Deep.DeepCutAuto
namespace Go.Proofs.Ybulkdao
open Go.RowKit

/-- The j-th cell of a step. -/
def stCell (s : Stp) : Nat → Value
  | 0 => .int .u8 s.kd
  | 1 => .int .i64 s.tx
  | 2 => .string s.ky
  | 3 => .string s.px
  | 4 => .string ⟨#[]⟩
  | 5 => .int .u8 0
  | 6 => .int .i64 0
  | 7 => .int .i64 0
  | _ => .string ⟨#[]⟩
/-- Block g holds n steps. -/
structure StRow (g n : Nat) (S : Nat → Stp) (w : World) : Prop where
  cell : ∀ i, i < n → ∀ j, j < 9 → w.cell? ⟨g, i * 9 + j, none⟩ = some (stCell (S i) j)
theorem StRow.below {g n B : Nat} {S : Nat → Stp} {w w' : World} (h : StRow g n S w) (hb : Below B w w') (hg : g < B) : StRow g n S w' :=
  ⟨fun i hi j hj => (hb.cell (p := ⟨g, i * 9 + j, none⟩) hg).trans (h.cell i hi j hj)⟩

/-- What is not to be written: the steps' own block; the step at hand. -/
def pr1 (g : Nat) (og : Obj) : Nat → Option Obj := fun y => if y = g then some og else none
def prs (bl : Nat) (ob : Obj) (g : Nat) (og : Obj) : Nat → Option Obj := fun y => if y = bl then some ob else pr1 g og y
def stepObj (s : Stp) : Obj := .cells #[.int .u8 s.kd, .int .i64 s.tx, .string s.ky, .string s.px, .string ⟨#[]⟩, .int .u8 0, .int .i64 0, .int .i64 0, .string ⟨#[]⟩] 31 (0, 0)
/-- Block bl is the step s, copied. -/
structure StepAt (bl : Nat) (s : Stp) (w : World) : Prop where
  blk : w.heap[bl]? = some (.cells #[.int .u8 s.kd, .int .i64 s.tx, .string s.ky, .string s.px, .string ⟨#[]⟩, .int .u8 0, .int .i64 0, .int .i64 0, .string ⟨#[]⟩] 31 (0, 0))
theorem StepAt.new (s : Stp) (w : World) : StepAt w.heap.size s (w.alloc (.cells #[.int .u8 s.kd, .int .i64 s.tx, .string s.ky, .string s.px, .string ⟨#[]⟩, .int .u8 0, .int .i64 0, .int .i64 0, .string ⟨#[]⟩] 31 (0, 0))) := by
  refine ⟨?_⟩
  show (w.heap.push _)[w.heap.size]? = _
  simp
theorem StepAt.c0 {bl : Nat} {s : Stp} {w : World} (h : StepAt bl s w) : w.cell? ⟨bl, 0, none⟩ = some (.int .u8 s.kd) := by simp [World.cell?, h.blk]
theorem StepAt.c1 {bl : Nat} {s : Stp} {w : World} (h : StepAt bl s w) : w.cell? ⟨bl, 1, none⟩ = some (.int .i64 s.tx) := by simp [World.cell?, h.blk]
theorem StepAt.c2 {bl : Nat} {s : Stp} {w : World} (h : StepAt bl s w) : w.cell? ⟨bl, 2, none⟩ = some (.string s.ky) := by simp [World.cell?, h.blk]
theorem StepAt.kept {bl : Nat} {s : Stp} {w w' : World} {row : Option Nat} (h : StepAt bl s w) (hg : w.grownBy w' row) (hne : row ≠ some bl) : StepAt bl s w' := ⟨blk_kept hg hne h.blk⟩
theorem StepAt.lt {bl : Nat} {s : Stp} {w : World} (h : StepAt bl s w) : bl < w.heap.size := lt_of_block h.blk

section
variable {w0 : World} {bs br bc ba bw bo bt bf base bl g : Nat} {og : Obj} {own : Nat → Cd} {σ : Sig} {w : World} {s : Stp}
theorem Inv.step (h : Inv w0 bs br bc ba bw bo bt bf base (prs bl (stepObj s) g og) own σ w) : StepAt bl s w := ⟨(h.kp bl (stepObj s) (by simp [prs])).1⟩
theorem Inv.blOwn (h : Inv w0 bs br bc ba bw bo bt bf base (prs bl (stepObj s) g og) own σ w) (hb : base ≤ bl) : (own bl).1 = 8 := h.notOwn (o := stepObj s) (by simp [prs]) hb
theorem Inv.back (h : Inv w0 bs br bc ba bw bo bt bf base (prs bl (stepObj s) g og) own σ w) (hne : g ≠ bl) : Inv w0 bs br bc ba bw bo bt bf base (pr1 g og) own σ w := by
  refine h.weaken fun y o hy => ?_
  unfold prs
  rw [if_neg]
  · exact hy
  · rintro rfl
    unfold pr1 at hy
    rw [if_neg (fun e => hne e.symm)] at hy
    cases hy
theorem Inv.seg (h : Inv w0 bs br bc ba bw bo bt bf base (pr1 g og) own σ w) : w.heap[g]? = some og := (h.kp g og (by simp [pr1])).1
theorem Inv.enter (h : Inv w0 bs br bc ba bw bo bt bf base (pr1 g og) own σ w) (s : Stp) : ∃ own', Inv w0 bs br bc ba bw bo bt bf base (prs w.heap.size (stepObj s) g og) own' σ (w.alloc (stepObj s)) := ⟨_, h.protect (stepObj s)⟩
end

theorem grown_of_below {w w' : World} (h : Below w.heap.size w w') : w.grownBy w' none := ⟨h.os, h.tape, h.output, h.size, fun k hk _ => h.block k hk⟩

/-- The eight blocks that RecoveryOf lays at its start. -/
abbrev start8 (w : World) : World := ((((((((w.alloc (.cells #[.bool false, .bool false, .bool false] 34)).alloc (.cells #[.bool true, .bool true, .bool true] 34)).alloc (.map #[] 0)).alloc (.map #[] 0)).alloc (.map #[] 0)).alloc (.map #[] 0)).alloc (.map #[] 0)).alloc (.map #[] 0))
theorem size_alloc (w : World) (o : Obj) : (w.alloc o).heap.size = w.heap.size + 1 := by simp
theorem inv_start (w w1 : World) (gs : Nat) (og : Obj) (hgr : (start8 w).grownBy w1 none) (hk : w1.heap[gs]? = some og) (hgs : gs < w.heap.size ∨ w.heap.size + 1 + 1 + 1 + 1 + 1 + 1 + 1 + 1 ≤ gs) (hbel : Below w.heap.size w w1) : Inv w w.heap.size (w.heap.size + 1) (w.heap.size + 1 + 1) (w.heap.size + 1 + 1 + 1) (w.heap.size + 1 + 1 + 1 + 1) (w.heap.size + 1 + 1 + 1 + 1 + 1) (w.heap.size + 1 + 1 + 1 + 1 + 1 + 1) (w.heap.size + 1 + 1 + 1 + 1 + 1 + 1 + 1) (w.heap.size + 1 + 1 + 1 + 1 + 1 + 1 + 1 + 1) (pr1 gs og) (fun _ => (8, ⟨#[]⟩, 0)) sig0 w1 := by
  have g := fun (w : World) (o : Obj) => World.grownBy_alloc w o none
  refine ⟨hbel, fun y o hy => ?_, by omega, by have := hgr.size; simp at this; omega, ?_, ?_, ?_, ?_, ?_, ?_, ?_, ?_⟩
  · unfold pr1 at hy
    split at hy
    · rename_i e
      subst e
      simp at hy
      subst hy
      refine ⟨hk, ?_⟩
      rcases hgs with q | q
      · exact .inl q
      · exact .inr ⟨q, rfl⟩
    · cases hy
  · have h : (w.alloc (.cells #[.bool false, .bool false, .bool false] 34)).heap[w.heap.size]? = some (.cells #[.bool false, .bool false, .bool false] 34 (0, 0)) := by
      show (w.heap.push _)[w.heap.size]? = _
      simp
    exact blk_kept hgr (by simp) (blk_kept (g _ _) (by simp) (blk_kept (g _ _) (by simp) (blk_kept (g _ _) (by simp) (blk_kept (g _ _) (by simp) (blk_kept (g _ _) (by simp) (blk_kept (g _ _) (by simp) (blk_kept (g _ _) (by simp) h)))))))
  · have h : ((w.alloc (.cells #[.bool false, .bool false, .bool false] 34)).alloc (.cells #[.bool true, .bool true, .bool true] 34)).heap[w.heap.size + 1]? = some (.cells #[.bool true, .bool true, .bool true] 34 (0, 0)) := by
      show (((w.heap.push _).push _)[w.heap.size + 1]?) = _
      rw [Array.getElem?_push, if_pos (by simp)]
    exact blk_kept hgr (by simp) (blk_kept (g _ _) (by simp) (blk_kept (g _ _) (by simp) (blk_kept (g _ _) (by simp) (blk_kept (g _ _) (by simp) (blk_kept (g _ _) (by simp) (blk_kept (g _ _) (by simp) h))))))
  · have h := BoMap.made ((w.alloc (.cells #[.bool false, .bool false, .bool false] 34)).alloc (.cells #[.bool true, .bool true, .bool true] 34))
    simp only [size_alloc] at h
    exact (((((h.kept (g _ _) (by simp)).kept (g _ _) (by simp)).kept (g _ _) (by simp)).kept (g _ _) (by simp)).kept (g _ _) (by simp)).kept hgr (by simp)
  · have h := BoMap.made ((((w.alloc (.cells #[.bool false, .bool false, .bool false] 34)).alloc (.cells #[.bool true, .bool true, .bool true] 34)).alloc (.map #[] 0)))
    simp only [size_alloc] at h
    exact (((((h.kept (g _ _) (by simp)).kept (g _ _) (by simp)).kept (g _ _) (by simp)).kept (g _ _) (by simp))).kept hgr (by simp)
  · have h := SlMap.made (dec := fun a b : ByteArray => a == b) (encK := Value.string) (encX := Value.int .i64) (e := 3) (code := cW) (own := fun _ => (8, ⟨#[]⟩, 0)) (((((w.alloc (.cells #[.bool false, .bool false, .bool false] 34)).alloc (.cells #[.bool true, .bool true, .bool true] 34)).alloc (.map #[] 0)).alloc (.map #[] 0))) (w.heap.size + 1 + 1 + 1 + 1 + 1 + 1 + 1 + 1)
    simp only [size_alloc] at h
    exact ((((h.kept (g _ _) (by simp) (fun _ e => by cases e) (fun _ _ _ _ => rfl)).kept (g _ _) (by simp) (fun _ e => by cases e) (fun _ _ _ _ => rfl)).kept (g _ _) (by simp) (fun _ e => by cases e) (fun _ _ _ _ => rfl))).kept hgr (by simp) (fun _ e => by cases e) (fun _ _ _ _ => rfl)
  · have h := OpMap.made (own := fun _ => (8, ⟨#[]⟩, 0)) ((((((w.alloc (.cells #[.bool false, .bool false, .bool false] 34)).alloc (.cells #[.bool true, .bool true, .bool true] 34)).alloc (.map #[] 0)).alloc (.map #[] 0)).alloc (.map #[] 0))) (w.heap.size + 1 + 1 + 1 + 1 + 1 + 1 + 1 + 1)
    simp only [size_alloc] at h
    exact (((h.kept (g _ _) (by simp) (fun _ e => by cases e) (fun _ _ _ _ => rfl)).kept (g _ _) (by simp) (fun _ e => by cases e) (fun _ _ _ _ => rfl))).kept hgr (by simp) (fun _ e => by cases e) (fun _ _ _ _ => rfl)
  · have h := SlMap.made (dec := fun a b : Int => a == b) (encK := Value.int .i64) (encX := Value.string) (e := 9) (code := cT) (own := fun _ => (8, ⟨#[]⟩, 0)) (((((((w.alloc (.cells #[.bool false, .bool false, .bool false] 34)).alloc (.cells #[.bool true, .bool true, .bool true] 34)).alloc (.map #[] 0)).alloc (.map #[] 0)).alloc (.map #[] 0)).alloc (.map #[] 0))) (w.heap.size + 1 + 1 + 1 + 1 + 1 + 1 + 1 + 1)
    simp only [size_alloc] at h
    exact ((h.kept (g _ _) (by simp) (fun _ e => by cases e) (fun _ _ _ _ => rfl))).kept hgr (by simp) (fun _ e => by cases e) (fun _ _ _ _ => rfl)
  · have h := SlMap.made (dec := fun a b : Int => a == b) (encK := Value.int .i64) (encX := Value.int .i64) (e := 3) (code := cF) (own := fun _ => (8, ⟨#[]⟩, 0)) ((((((((w.alloc (.cells #[.bool false, .bool false, .bool false] 34)).alloc (.cells #[.bool true, .bool true, .bool true] 34)).alloc (.map #[] 0)).alloc (.map #[] 0)).alloc (.map #[] 0)).alloc (.map #[] 0)).alloc (.map #[] 0))) (w.heap.size + 1 + 1 + 1 + 1 + 1 + 1 + 1 + 1)
    simp only [size_alloc] at h
    exact (h).kept hgr (by simp) (fun _ e => by cases e) (fun _ _ _ _ => rfl)

theorem len_drop (ab : Int → Bool) (xs : List Int) : (dropAb ab xs).length ≤ xs.length := by
  unfold dropAb
  rw [List.length_reverse]
  have := (List.dropWhile_sublist (p := ab) (l := xs.reverse)).length_le
  simpa using this
theorem len_updS {α : Type} (f : ByteArray → List α) (k x : ByteArray) (v : List α) (b : Nat) (hf : ∀ y, (f y).length ≤ b) (hv : v.length ≤ b) : (updS f k v x).length ≤ b := by
  unfold updS; split
  · exact hv
  · exact hf x
theorem len_updI {α : Type} (f : Int → List α) (k x : Int) (v : List α) (b : Nat) (hf : ∀ y, (f y).length ≤ b) (hv : v.length ≤ b) : (updI f k v x).length ≤ b := by
  unfold updI; split
  · exact hv
  · exact hf x
/-- No list is longer than the steps that have been made. -/
theorem lens (S : Nat → Stp) : ∀ i, (∀ k, ((sigR S i).wrs k).length ≤ i) ∧ (∀ t, ((sigR S i).wrt t).length ≤ i) ∧ (∀ t, ((sigR S i).rdf t).length ≤ i) := by
  intro i
  induction i with
  | zero => exact ⟨fun _ => by simp [sigR, sig0], fun _ => by simp [sigR, sig0], fun _ => by simp [sigR, sig0]⟩
  | succ i ih =>
    obtain ⟨h1, h2, h3⟩ := ih
    have m1 : ∀ k, ((sigR S i).wrs k).length ≤ i + 1 := fun k => Nat.le_succ_of_le (h1 k)
    have m2 : ∀ k, ((sigR S i).wrt k).length ≤ i + 1 := fun k => Nat.le_succ_of_le (h2 k)
    have m3 : ∀ k, ((sigR S i).rdf k).length ≤ i + 1 := fun k => Nat.le_succ_of_le (h3 k)
    rw [sigR]
    unfold stepR
    split
    · unfold readTo
      have hd := Nat.le_trans (len_drop (sigR S i).abo ((sigR S i).wrs (S i).ky)) (m1 (S i).ky)
      split
      · exact ⟨fun k => len_updS _ _ _ _ _ m1 hd, m2, m3⟩
      · split
        · exact ⟨fun k => len_updS _ _ _ _ _ m1 hd, m2, m3⟩
        · refine ⟨fun k => len_updS _ _ _ _ _ m1 hd, m2, fun t => len_updI _ _ _ _ _ m3 ?_⟩
          have := h3 (S i).tx
          simp [seen]; omega
    · split
      · unfold wrote
        have a1 := h1 (S i).ky
        have a2 := h2 (S i).tx
        split
        · refine ⟨fun k => len_updS _ _ _ _ _ m1 ?_, m2, m3⟩
          simp [seen]; omega
        · refine ⟨fun k => len_updS _ _ _ _ _ m1 ?_, fun t => len_updI _ _ _ _ _ m2 ?_, m3⟩
          · simp [seen]; omega
          · simp [seen]; omega
      · split
        · exact ⟨m1, m2, m3⟩
        · split
          · exact ⟨m1, m2, m3⟩
          · exact ⟨m1, m2, m3⟩

theorem delAll_snoc (t : Int) (ks : List ByteArray) (k : ByteArray) : ∀ opn, delAll t opn (ks ++ [k]) = updS (delAll t opn ks) k ((delAll t opn ks k).erase t) := by
  induction ks with
  | nil => intro opn; rfl
  | cons a ks ih => intro opn; simp only [List.cons_append, delAll]; exact ih _
theorem del_nilMap (w : World) (ty : TypeId) (t : Int) : (Builtin.delete_ #[39, 3] ty #[.map none, .int .i64 t]).run Yba.prog w = .ok (.tuple #[]) w := by
  simp [Builtin.delete_, run_underlying Yba.underlying39, keyI.ok, Result.andThen]

theorem Yba.info3 : (Yba.prog.info? 3).map (fun i => (i.zero, i.size, i.bytes)) = some (some (.int .i64 0), 1, 8) := by kernel_rfl
theorem Yba.info9 : (Yba.prog.info? 9).map (fun i => (i.zero, i.size, i.bytes)) = some (some (.string ⟨#[]⟩), 1, 16) := by kernel_rfl
/-- A look-up stands where the map's block stands. -/
theorem look_keeps {t b : Nat} {k v : Value} {w w' : World} (h : ∀ x : World, x.heap[b]? = w.heap[b]? → (Instr.lookup t (.map (some b)) k false).run Yba.prog x = .ok v x) (hw : w'.heap[b]? = w.heap[b]?) : (Instr.lookup t (.map (some b)) k false).run Yba.prog w' = .ok v w' := h w' hw
theorem grown_two {w w1 : World} {o : Obj} {row : Option Nat} (hg : ((w.alloc o).drew).grownBy w1 row) : w.grownBy w1 row :=
  ⟨hg.os, hg.tape, hg.output, by have := hg.size; simp at this; omega, fun k hk hr => by
    rw [hg.block k (by simp; omega) hr]
    exact Below.heap_alloc w o k hk⟩

end Go.Proofs.Ybulkdao
