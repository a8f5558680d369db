/-
  The memory of a search: a struct's block, and a family of rows, each in a block of its own.
-/
import Derived.Test.YbulkcykRunSpec
import Derived.Test.YbulkcykProg
import Derived.Below
import Derived.OwnWalk
import Derived.WalkSmall
import Derived.Deep.LoopGhost
import Derived.Deep.QuietTactic
import Derived.BigQuiet
import Derived.Deep.RegionHeld3
import Derived.Deep.AppendLies
import Derived.Laws.Pointers
import Derived.Deep.Cut
import Derived.Deep.CutRange
import Derived.Deep.DeepCutAuto
namespace Go.Proofs.Ybulkcyk
open Go.RowKit

theorem lt_of_block {w : World} {b : Nat} {o : Obj} (h : w.heap[b]? = some o) : b < w.heap.size := (Array.getElem?_eq_some_iff.1 h).1
theorem blk_kept {w w' : World} {row : Option Nat} {b : Nat} {o : Obj} (hg : w.grownBy w' row) (hne : row ≠ some b) (h : w.heap[b]? = some o) : w'.heap[b]? = some o := by
  rw [hg.block b (lt_of_block h) (fun e => hne e.symm)]; exact h
theorem grown_drewN (w : World) (n : Nat) : w.grownBy (w.drewN n) none := ⟨rfl, rfl, rfl, Nat.le_refl _, fun _ _ _ => rfl⟩
theorem grown_setCell (w : World) (a : Addr) (v : Value) : w.grownBy (w.setCell a v) (some a.block) := ⟨rfl, rfl, rfl, by simp [World.setCell], fun k _ hk => Below.heap_setCell _ _ _ _ (fun e => hk (by rw [e]))⟩
theorem set_blk {w : World} {b : Nat} {cs : Array Value} {t : TypeId} (h : w.heap[b]? = some (.cells cs t (0, 0))) (j : Nat) (v : Value) : (w.setCell ⟨b, j, none⟩ v).heap[b]? = some (.cells (cs.setIfInBounds j v) t (0, 0)) := by
  have hlt := lt_of_block h
  have h' : w.heap[b] = .cells cs t (0, 0) := by simpa [Array.getElem?_eq_getElem hlt] using h
  show (w.heap.modify b _)[b]? = _
  rw [Array.getElem?_eq_getElem (by simpa using hlt), Array.getElem_modify_self, h']
  rfl
theorem grown_trans {w w1 w2 : World} {row : Option Nat} (h1 : w.grownBy w1 row) (h2 : w1.grownBy w2 row) : w.grownBy w2 row :=
  ⟨h2.os.trans h1.os, h2.tape.trans h1.tape, h2.output.trans h1.output, Nat.le_trans h1.size h2.size, fun k hk hne => (h2.block k (Nat.lt_of_lt_of_le hk h1.size) hne).trans (h1.block k hk hne)⟩
theorem grown_weak {w w1 : World} {row : Option Nat} (h1 : w.grownBy w1 none) : w.grownBy w1 row := ⟨h1.os, h1.tape, h1.output, h1.size, fun k hk _ => h1.block k hk (by simp)⟩
theorem grown_of_below {w w' : World} (h : Below w.heap.size w w') : w.grownBy w' none := ⟨h.os, h.tape, h.output, h.size, fun k hk _ => h.block k hk⟩

structure RowSpec where
  e : Nat
  sz : Nat
  v : Value
  n : Nat
  xs : List Value
  off : Nat
def RowP (B : Nat) (r : RowSpec) (w : World) : Prop :=
  r.xs.length = r.n * r.sz ∧ ((r.v = .slice none 0 0 ∧ r.n = 0) ∨
    ∃ g cap cur, r.v = .slice (some ⟨g, r.off, none⟩) r.n cap ∧ B ≤ g ∧ w.heap[g]? = some (.cells cur r.e (0, 0)) ∧ r.n ≤ cap ∧ cap ≤ maxLen ∧ cur.size = r.off + cap * r.sz ∧ (cur.toList.drop r.off).take (r.n * r.sz) = r.xs)
theorem RowP.owns {B : Nat} {r : RowSpec} {w : World} (h : RowP B r w) (h0 : r.off = 0) : w.ownsRow B r.e r.sz r.v r.n r.xs := by
  refine ⟨h.1, h.2.imp id ?_⟩
  rintro ⟨g, cap, cur, h1, h2, h3, h4, h5, h6, h7⟩
  rw [h0] at h1 h6 h7
  exact ⟨g, cap, cur, h1, h2, h3, h4, h5, by omega, by simpa using h7⟩
theorem RowP.of_owns {B : Nat} {e sz : Nat} {v : Value} {n : Nat} {xs : List Value} {w : World} (h : w.ownsRow B e sz v n xs) : RowP B ⟨e, sz, v, n, xs, 0⟩ w := by
  refine ⟨h.1, h.2.imp id ?_⟩
  rintro ⟨g, cap, cur, h1, h2, h3, h4, h5, h6, h7⟩
  exact ⟨g, cap, cur, h1, h2, h3, h4, h5, by show cur.size = 0 + cap * sz; omega, by simpa using h7⟩
theorem RowP.kept {B : Nat} {r : RowSpec} {w w' : World} {row : Option Nat} (h : RowP B r w) (hg : w.grownBy w' row) (hne : ∀ k, r.v.ownBlock = some k → row ≠ some k) : RowP B r w' := by
  refine ⟨h.1, h.2.imp id ?_⟩
  rintro ⟨g, cap, cur, h1, h2, h3, h4⟩
  exact ⟨g, cap, cur, h1, h2, blk_kept hg (hne g (by rw [h1]; rfl)) h3, h4⟩
theorem RowP.lt {B : Nat} {r : RowSpec} {w : World} (h : RowP B r w) {k : Nat} (hk : r.v.ownBlock = some k) : B ≤ k ∧ k < w.heap.size := by
  rcases h.2 with ⟨e, _⟩ | ⟨g, cap, cur, h1, h2, h3, _⟩
  · rw [e] at hk; cases hk
  · rw [h1] at hk
    have : g = k := by simpa [Value.ownBlock] using hk
    subst this
    exact ⟨h2, lt_of_block h3⟩
/-- A cell of a row. -/
theorem RowP.cell {B : Nat} {r : RowSpec} {w : World} (h : RowP B r w) {g n cap : Nat} (hv : r.v = .slice (some ⟨g, r.off, none⟩) n cap) {i : Nat} {u : Value} (hu : r.xs[i]? = some u) : w.cell? ⟨g, r.off + i, none⟩ = some u := by
  rcases h.2 with ⟨e, _⟩ | ⟨g', cap', cur, h1, _, h3, _, _, _, h7⟩
  · rw [e] at hv; cases hv
  · rw [h1] at hv
    cases hv
    rw [← h7, List.getElem?_take] at hu
    split at hu
    · simp only [World.cell?, h3]
      rw [List.getElem?_drop] at hu
      simpa using hu
    · cases hu
theorem RowP.frozen {B : Nat} {r : RowSpec} {w : World} (h : RowP B r w) {g o n cap : Nat} (hv : r.v = .slice (some ⟨g, o, none⟩) n cap) (i : Nat) : w.frozen? ⟨g, i, none⟩ = false := by
  rcases h.2 with ⟨e, _⟩ | ⟨g', cap', cur, h1, _, h3, _⟩
  · rw [e] at hv; cases hv
  · rw [h1] at hv
    cases hv
    simp [World.frozen?, h3]

/-- The rows of a search. -/
inductive Tag
  | pof | idx | low | blk | tos | ons | blsO | prt | path | stk | cycO | held
  | bls (v : Nat) | mem (p : Nat) | cyc (k : Nat)
deriving DecidableEq
def updT (f : Tag → Option RowSpec) (t : Tag) (r : RowSpec) : Tag → Option RowSpec := fun u => if u = t then some r else f u
theorem updT_same (f : Tag → Option RowSpec) (t : Tag) (r : RowSpec) : updT f t r t = some r := by simp [updT]
theorem updT_other (f : Tag → Option RowSpec) {t u : Tag} (r : RowSpec) (h : u ≠ t) : updT f t r u = f u := by simp [updT, h]

structure MI (w0 w1 : World) (bs B ty : Nat) (own : Nat → Tag) (cs : Array Value) (Rw : Tag → Option RowSpec) (w : World) : Prop where
  bel : Below w0.heap.size w0 w
  b0 : w0.heap.size ≤ bs
  bsB : bs < B
  sz : B ≤ w.heap.size
  keep : ∀ y, y < B → y ≠ bs → w.heap[y]? = w1.heap[y]?
  st : w.heap[bs]? = some (.cells cs ty (0, 0))
  row : ∀ t r, Rw t = some r → RowP B r w ∧ ∀ k, r.v.ownBlock = some k → own k = t
section
variable {w0 w1 w w' : World} {bs B ty : Nat} {own : Nat → Tag} {cs : Array Value} {Rw : Tag → Option RowSpec}
theorem MI.kcell (h : MI w0 w1 bs B ty own cs Rw w) {a : Addr} (h1 : a.block < B) (h2 : a.block ≠ bs) : w.cell? a = w1.cell? a := World.cell?_of_block (h.keep a.block h1 h2)
theorem MI.grow (h : MI w0 w1 bs B ty own cs Rw w) (hg : w.grownBy w' none) : MI w0 w1 bs B ty own cs Rw w' :=
  ⟨h.bel.grown hg (by have := h.sz; have := h.bsB; have := h.b0; omega) (fun k e => by cases e), h.b0, h.bsB, Nat.le_trans h.sz hg.size, fun y hy hne => (hg.block y (by have := h.sz; omega) (by simp)).trans (h.keep y hy hne), blk_kept hg (by simp) h.st,
    fun t r hr => ⟨(h.row t r hr).1.kept hg (fun k _ => by simp), (h.row t r hr).2⟩⟩
theorem MI.alloc (h : MI w0 w1 bs B ty own cs Rw w) (o : Obj) : MI w0 w1 bs B ty own cs Rw (w.alloc o) := h.grow (World.grownBy_alloc _ _ none)
theorem MI.drewN (h : MI w0 w1 bs B ty own cs Rw w) (n : Nat) : MI w0 w1 bs B ty own cs Rw (w.drewN n) := h.grow (grown_drewN _ _)
theorem MI.setC (h : MI w0 w1 bs B ty own cs Rw w) (k : Nat) (x : Value) : MI w0 w1 bs B ty own (cs.setIfInBounds k x) Rw (w.setCell ⟨bs, k, none⟩ x) := by
  have hg := grown_setCell w ⟨bs, k, none⟩ x
  refine ⟨h.bel.grown hg (by have := h.sz; have := h.bsB; have := h.b0; omega) (fun k e => by simp at e; have := h.b0; omega), h.b0, h.bsB, Nat.le_trans h.sz hg.size, fun y hy hne => (hg.block y (by have := h.sz; omega) (by simpa using hne)).trans (h.keep y hy hne), set_blk h.st k x, fun t r hr => ⟨(h.row t r hr).1.kept hg (fun k hk => ?_), (h.row t r hr).2⟩⟩
  have := ((h.row t r hr).1.lt hk).1
  have := h.bsB
  simp
  omega
/-- A row's block is written; the row is r' behind it. -/
theorem MI.turn (h : MI w0 w1 bs B ty own cs Rw w) {t : Tag} {r r' : RowSpec} {g : Nat} (hr : Rw t = some r) (hv : r.v.ownBlock = some g) (hg : w.grownBy w' (some g)) (hr' : RowP B r' w') (hv' : r'.v.ownBlock = some g) : MI w0 w1 bs B ty own cs (updT Rw t r') w' := by
  have hlt := (h.row t r hr).1.lt hv
  have hog := (h.row t r hr).2 g hv
  have hb := h.bsB
  refine ⟨h.bel.grown hg (by have := h.sz; have := h.b0; omega) (fun k e => by cases e; have := h.b0; omega), h.b0, h.bsB, Nat.le_trans h.sz hg.size, fun y hy hne => (hg.block y (by have := h.sz; omega) (by simp; omega)).trans (h.keep y hy hne), blk_kept hg (by simp; omega) h.st, fun u q hq => ?_⟩
  by_cases e : u = t
  · subst e
    rw [updT_same] at hq
    cases hq
    exact ⟨hr', fun k hk => by rw [hv'] at hk; cases hk; exact hog⟩
  · rw [updT_other _ _ e] at hq
    obtain ⟨h1, h2⟩ := h.row u q hq
    refine ⟨h1.kept hg (fun k hk he => ?_), h2⟩
    cases he
    exact e ((h2 g hk).symm.trans hog)
theorem MI.setR (h : MI w0 w1 bs B ty own cs Rw w) {t : Tag} {r : RowSpec} {g n cap : Nat} (hr : Rw t = some r) (hv : r.v = .slice (some ⟨g, 0, none⟩) n cap) (h0 : r.off = 0) (i : Nat) (x : Value) : MI w0 w1 bs B ty own cs (updT Rw t { r with xs := r.xs.set i x }) (w.setCell ⟨g, i, none⟩ x) := by
  have hvo : r.v.ownBlock = some g := by rw [hv]; rfl
  refine h.turn hr hvo (grown_setCell w ⟨g, i, none⟩ x) ?_ (by rw [← hvo])
  obtain ⟨h1, h2⟩ := (h.row t r hr).1
  refine ⟨by simpa using h1, ?_⟩
  rcases h2 with ⟨e, _⟩ | ⟨g', cap', cur, e1, e2, e3, e4, e5, e6, e7⟩
  · rw [hv] at e; cases e
  · refine .inr ⟨g', cap', cur.setIfInBounds i x, e1, e2, ?_, e4, e5, by simpa using e6, ?_⟩
    · have eg : g = g' := by
        rw [hv] at e1
        simp only [Value.slice.injEq, Option.some.injEq, Addr.mk.injEq] at e1
        exact e1.1.1
      rw [eg]
      exact set_blk e3 i x
    · rw [h0] at e7 ⊢
      show ((cur.setIfInBounds i x).toList.drop 0).take (r.n * r.sz) = r.xs.set i x
      rw [← e7, List.drop_zero, List.drop_zero, Array.toList_setIfInBounds, List.take_set]
/-- append: the row has grown, in its own block or in a new one. -/
theorem MI.app (h : MI w0 w1 bs B ty own cs Rw w) {t : Tag} {r : RowSpec} {g n cap : Nat} {xs : List Value} (hr : Rw t = some r) (hg : w.grownBy w' r.v.ownBlock) (ho : w'.ownsRow B r.e r.sz (.slice (some ⟨g, 0, none⟩) n cap) n xs) (hat : r.v.ownBlock = some g ∨ w.heap.size ≤ g) :
    ∃ own', MI w0 w1 bs B ty own' cs (updT Rw t ⟨r.e, r.sz, .slice (some ⟨g, 0, none⟩) n cap, n, xs, 0⟩) w' := by
  have hb := h.bsB
  have hR := (h.row t r hr)
  have hbel : Below w0.heap.size w0 w' := h.bel.grown hg (by have := h.sz; have := h.b0; omega) (fun k e => by have := (hR.1.lt e).1; have := h.b0; omega)
  have hkp : ∀ y, y < B → y ≠ bs → w'.heap[y]? = w1.heap[y]? := fun y hy hne => (hg.block y (by have := h.sz; omega) (fun e => by have := (hR.1.lt e.symm).1; omega)).trans (h.keep y hy hne)
  have hst : w'.heap[bs]? = some (.cells cs ty (0, 0)) := blk_kept hg (fun e => by have := (hR.1.lt e).1; omega) h.st
  rcases hat with hat | hat
  · exact ⟨own, hbel, h.b0, h.bsB, Nat.le_trans h.sz hg.size, hkp, hst, fun u q hq => by
      by_cases e : u = t
      · subst e
        rw [updT_same] at hq
        cases hq
        exact ⟨RowP.of_owns ho, fun k hk => by have : g = k := by simpa [Value.ownBlock] using hk
                                               rw [← this]; exact hR.2 g hat⟩
      · rw [updT_other _ _ e] at hq
        obtain ⟨h1, h2⟩ := h.row u q hq
        refine ⟨h1.kept hg (fun k hk he => ?_), h2⟩
        exact e ((h2 k hk).symm.trans (hR.2 k he))⟩
  · refine ⟨fun k => if k = g then t else own k, hbel, h.b0, h.bsB, Nat.le_trans h.sz hg.size, hkp, hst, fun u q hq => ?_⟩
    by_cases e : u = t
    · subst e
      rw [updT_same] at hq
      cases hq
      exact ⟨RowP.of_owns ho, fun k hk => by have : g = k := by simpa [Value.ownBlock] using hk
                                             rw [if_pos this.symm]⟩
    · rw [updT_other _ _ e] at hq
      obtain ⟨h1, h2⟩ := h.row u q hq
      refine ⟨h1.kept hg (fun k hk he => ?_), fun k hk => ?_⟩
      · exact e ((h2 k hk).symm.trans (hR.2 k he))
      · have := (h1.lt hk).2
        rw [if_neg (by omega)]
        exact h2 k hk
/-- A row is taken for another one over the same block, or for none. -/
theorem MI.sub (h : MI w0 w1 bs B ty own cs Rw w) {t : Tag} {r r' : RowSpec} (hr : Rw t = some r) (hr' : RowP B r' w) (hv : ∀ k, r'.v.ownBlock = some k → r.v.ownBlock = some k) : MI w0 w1 bs B ty own cs (updT Rw t r') w := by
  refine ⟨h.bel, h.b0, h.bsB, h.sz, h.keep, h.st, fun u q hq => ?_⟩
  by_cases e : u = t
  · subst e
    rw [updT_same] at hq
    cases hq
    exact ⟨hr', fun k hk => (h.row u r hr).2 k (hv k hk)⟩
  · rw [updT_other _ _ e] at hq
    exact h.row u q hq
/-- A row goes over to another tag. -/
theorem MI.retag (h : MI w0 w1 bs B ty own cs Rw w) {t t2 : Tag} {r : RowSpec} (hr : Rw t = some r) (h2 : Rw t2 = none) (hne : t ≠ t2) : ∃ own', MI w0 w1 bs B ty own' cs (updT (updT Rw t2 r) t ⟨r.e, r.sz, .slice none 0 0, 0, [], 0⟩) w := by
  refine ⟨fun k => if own k = t then t2 else own k, h.bel, h.b0, h.bsB, h.sz, h.keep, h.st, fun u q hq => ?_⟩
  by_cases e : u = t
  · subst e
    rw [updT_same] at hq
    cases hq
    exact ⟨⟨by simp, .inl ⟨rfl, rfl⟩⟩, fun k hk => by cases hk⟩
  · rw [updT_other _ _ e] at hq
    by_cases e2 : u = t2
    · subst e2
      rw [updT_same] at hq
      cases hq
      exact ⟨(h.row t r hr).1, fun k hk => if_pos ((h.row t r hr).2 k hk)⟩
    · rw [updT_other _ _ e2] at hq
      obtain ⟨a, b⟩ := h.row u q hq
      exact ⟨a, fun k hk => by rw [b k hk, if_neg e]⟩
theorem MI.congr {Rw' : Tag → Option RowSpec} (h : MI w0 w1 bs B ty own cs Rw w) (e : ∀ t r, Rw' t = some r → Rw t = some r) {cs' : Array Value} (ec : cs' = cs) : MI w0 w1 bs B ty own cs' Rw' w := by
  subst ec
  exact ⟨h.bel, h.b0, h.bsB, h.sz, h.keep, h.st, fun t r hr => h.row t r (e t r hr)⟩
theorem MI.cell (h : MI w0 w1 bs B ty own cs Rw w) {k : Nat} {x : Value} (hx : cs[k]? = some x) : w.cell? ⟨bs, k, none⟩ = some x := by simp [World.cell?, h.st, hx]
theorem MI.frozen (h : MI w0 w1 bs B ty own cs Rw w) (k : Nat) : w.frozen? ⟨bs, k, none⟩ = false := by simp [World.frozen?, h.st]
end
end Go.Proofs.Ybulkcyk
