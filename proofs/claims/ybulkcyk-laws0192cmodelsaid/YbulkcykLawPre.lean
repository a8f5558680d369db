/-
  What the walk of LawS0192CModel (function 3) stands on.
-/
import Derived.Test.YbulkcykRun
import Derived.Test.YbulkcykAdj
import Derived.Test.YbulkcykDfsPre
import Derived.Test.YbulkcykSame
namespace Go.Proofs.Ybulkcyk
open Go.RowKit

theorem Lists.boxed {w : World} {n : Nat} {lv : Value} {A : Nat → List Nat} (h : Lists w w.heap.size w.heap.size n lv A) (o : Obj) : Lists (w.alloc o) w.heap.size (w.alloc o).heap.size n lv A := by
  obtain ⟨ga, c, e, h1, h2, h3⟩ := h.ex
  have hs : (w.alloc o).heap.size = w.heap.size + 1 := by simp
  have hk : ∀ (a : Addr), a.block < w.heap.size → (w.alloc o).cell? a = w.cell? a := fun a ha => World.cell?_of_block ((World.grownBy_alloc w o none).block a.block ha (by simp))
  refine ⟨ga, c, e, by omega, by omega, fun v hv => ?_⟩
  obtain ⟨p, c2, h4, h5⟩ := h3 v hv
  refine ⟨p, c2, by rw [hk _ h1]; exact h4, fun h0 => ?_⟩
  obtain ⟨g, h6, h7, h8, h9⟩ := h5 h0
  exact ⟨g, h6, by omega, by omega, fun i hi => by rw [hk ⟨g, i, none⟩ h7]; exact h9 i hi⟩
theorem Lists.later {w w' : World} {bs B ob B' n : Nat} {lv : Value} {A : Nat → List Nat} (h : Lists w bs B n lv A) (hk : ∀ y, y < B → y ≠ bs → w'.heap[y]? = w.heap[y]?) (h1 : B ≤ ob) (h2 : B ≤ B') : Lists w' ob B' n lv A := by
  obtain ⟨ga, c, e, a1, a2, a3⟩ := h.ex
  refine ⟨ga, c, e, by omega, by omega, fun v hv => ?_⟩
  obtain ⟨p, c2, h4, h5⟩ := a3 v hv
  refine ⟨p, c2, by rw [World.cell?_of_block (a := ⟨ga, v, none⟩) (hk ga a1 a2)]; exact h4, fun h0 => ?_⟩
  obtain ⟨g, h6, h7, h8, h9⟩ := h5 h0
  exact ⟨g, h6, by omega, by omega, fun i hi => by rw [World.cell?_of_block (a := ⟨g, i, none⟩) (hk g h7 h8)]; exact h9 i hi⟩
theorem cell_keep {w w' : World} (h : Below w.heap.size w w') {a : Addr} {v : Value} (hc : w.cell? a = some v) : w'.cell? a = some v := by
  have hb : a.block < w.heap.size := by
    rcases Nat.lt_or_ge a.block w.heap.size with q | q
    · exact q
    · simp [World.cell?, Array.getElem?_eq_none q] at hc
  rw [World.cell?_of_block (h.block a.block hb)]
  exact hc
theorem LLR.keep {w w' : World} (h : Below w.heap.size w w') {p : Option Addr} {L : List (List Nat)} (hl : LLR w p L) : LLR w' p L := fun h0 => by
  obtain ⟨g, e, h1⟩ := hl h0
  refine ⟨g, e, fun i hi => ?_⟩
  obtain ⟨q, c, h2, h3⟩ := h1 i hi
  refine ⟨q, c, cell_keep h h2, fun h0 => ?_⟩
  obtain ⟨g2, o2, e2, h4⟩ := h3 h0
  exact ⟨g2, o2, e2, fun j hj => cell_keep h (h4 j hj)⟩
theorem map_iv_get (l : List Nat) {j : Nat} (hj : j < l.length) : (l.map iv)[j]? = some (iv (l.getD j 0)) := by
  rw [List.getElem?_map, List.getD_eq_getElem?_getD, List.getElem?_eq_getElem hj]
  rfl
/-- The rows of a list of cycles. -/
theorem llr_of {B : Nat} {w : World} {V : Tag → Value} {L : List (List Nat)} (h1 : RowP B (rowF 26 (V .cycO) L.length fun k => V (.cyc k)) w) (h2 : ∀ k, k < L.length → RowP B (rowI (V (.cyc k)) (L.getD k [])) w) : ∃ p c, V .cycO = .slice p L.length c ∧ LLR w p L ∧ L.length ≤ maxLen ∧ ∀ i, (L.getD i []).length ≤ maxLen := by
  have hll : ∀ i, (L.getD i []).length ≤ maxLen := fun i => by
    rcases Nat.lt_or_ge i L.length with q | q
    · rcases (h2 i q).2 with ⟨_, e⟩ | ⟨g, cap, cur, _, _, _, a, b, _⟩
      · have e' : (L.getD i []).length = 0 := e
        rw [e']; exact Nat.zero_le _
      · exact Nat.le_trans a b
    · rw [List.getD_eq_getElem?_getD, List.getElem?_eq_none q]
      exact Nat.zero_le _
  rcases h1.2 with ⟨e1, e2⟩ | ⟨g, cap, cur, e1, _, _, a, b, _⟩
  · have e2' : L.length = 0 := e2
    exact ⟨none, 0, by rw [e2']; exact e1, fun h0 => by omega, by rw [e2']; exact Nat.zero_le _, hll⟩
  · have e1' : V .cycO = .slice (some ⟨g, 0, none⟩) L.length cap := e1
    refine ⟨_, cap, e1', fun _ => ⟨g, rfl, fun i hi => ?_⟩, Nat.le_trans a b, hll⟩
    have hc := h1.cell (i := i) (u := V (.cyc i)) e1' (map_range_get _ _ _ hi)
    have hc' : w.cell? ⟨g, i, none⟩ = some (V (.cyc i)) := by simpa [rowF] using hc
    rcases (h2 i hi).2 with ⟨q1, q2⟩ | ⟨g2, cap2, cur2, q1, _⟩
    · have q2' : (L.getD i []).length = 0 := q2
      exact ⟨none, 0, by rw [hc', q2']; exact congrArg some q1, fun h0 => by omega⟩
    · have q1' : V (.cyc i) = .slice (some ⟨g2, 0, none⟩) (L.getD i []).length cap2 := q1
      refine ⟨_, cap2, by rw [hc', q1'], fun _ => ⟨g2, 0, rfl, fun j hj => ?_⟩⟩
      have := (h2 i hi).cell (i := j) (u := iv ((L.getD i []).getD j 0)) q1' (map_iv_get _ hj)
      simpa [rowI] using this
theorem HV.llr {E : En} {own : Nat → Tag} {V : Tag → Value} {s : Hs} {w : World} (h : HV E own V s w) : ∃ p c, V .cycO = .slice p s.out.cyc.length c ∧ LLR w p s.out.cyc ∧ s.out.cyc.length ≤ maxLen ∧ ∀ i, (s.out.cyc.getD i []).length ≤ maxLen :=
  llr_of (h.mi.row .cycO _ rfl).1 (fun k hk => (h.mi.row (.cyc k) _ (if_pos hk)).1)
theorem DV.llr {D : Dn} {own : Nat → Tag} {V : Tag → Value} {s : Ds} {w : World} (h : DV D own V s w) : ∃ p c, V .cycO = .slice p s.out.cyc.length c ∧ LLR w p s.out.cyc ∧ s.out.cyc.length ≤ maxLen ∧ ∀ i, (s.out.cyc.getD i []).length ≤ maxLen :=
  llr_of (h.mi.row .cycO _ rfl).1 (fun k hk => (h.mi.row (.cyc k) _ (if_pos hk)).1)
/-- The model's struct, new. -/
def ds0 (num : Int) : Ds := { path := [], onp := fun _ => false, out := { cyc := [], num := num, more := false }, start := 0 }
theorem dv0 (w : World) (n : Nat) (adjv : Value) (lim num : Int) (A : Nat → List Nat) : DI { w0 := w, w1 := (w.alloc (.cells (madeCells #[.bool false] n) 4)).alloc (.cells #[adjv, .int .i64 0, .slice none 0 0, .slice (some ⟨w.heap.size, 0, none⟩) n n, .slice none 0 0, .bool false, .int .i64 lim, .int .i64 num] 33), bs := w.heap.size + 1, ob := w.heap.size, B := w.heap.size + 1, n := n, adjv := adjv, lim := lim, A := A } (ds0 num) ((w.alloc (.cells (madeCells #[.bool false] n) 4)).alloc (.cells #[adjv, .int .i64 0, .slice none 0 0, .slice (some ⟨w.heap.size, 0, none⟩) n n, .slice none 0 0, .bool false, .int .i64 lim, .int .i64 num] 33)) := by
  have e1 : (w.alloc (.cells (madeCells #[.bool false] n) 4)).heap.size = w.heap.size + 1 := by simp
  refine ⟨fun _ => .held, fun _ => nilS, ⟨((Below.refl _ _).alloc (Nat.le_refl _) _).alloc (by simp) _, Nat.le_refl _, Nat.lt_succ_self _, by simp, fun _ _ _ => rfl, ?_, fun t q hq => ?_⟩⟩
  · rw [(World.grownBy_alloc (w.alloc (.cells (madeCells #[.bool false] n) 4)) _ none).block w.heap.size (by rw [e1]; omega) (by simp), heap_alloc_new]
    show some (Obj.cells (madeCells #[.bool false] n) 4 (0, 0)) = some (Obj.cells ((List.range n).map fun _ => Value.bool false).toArray 4 (0, 0))
    rw [← made_list]
  · cases t with
    | path => cases hq; exact ⟨⟨rfl, .inl ⟨rfl, rfl⟩⟩, fun k hk => by cases hk⟩
    | cycO => cases hq; exact ⟨⟨rfl, .inl ⟨rfl, rfl⟩⟩, fun k hk => by cases hk⟩
    | held =>
      cases hq
      have h := heap_alloc_new (w.alloc (.cells (madeCells #[.bool false] n) 4)) (.cells #[adjv, .int .i64 0, .slice none 0 0, .slice (some ⟨w.heap.size, 0, none⟩) n n, .slice none 0 0, .bool false, .int .i64 lim, .int .i64 num] 33)
      rw [e1] at h
      exact ⟨⟨rfl, .inr ⟨w.heap.size + 1, 1, _, rfl, Nat.le_refl _, h, Nat.le_refl _, by unfold maxLen; omega, rfl, rfl⟩⟩, fun k hk => rfl⟩
    | cyc k =>
      have hq' : (if k < 0 then some (rowI nilS (([] : List (List Nat)).getD k [])) else none) = some q := hq
      rw [if_neg (by omega)] at hq'
      cases hq'
    | _ => cases hq
end Go.Proofs.Ybulkcyk
