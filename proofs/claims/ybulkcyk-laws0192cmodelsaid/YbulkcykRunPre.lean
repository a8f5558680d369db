/-
  What the walk of run (function 6) stands on: makes; the reverse lists; the first state.
-/
import Derived.Test.YbulkcykLook
import Derived.Test.YbulkcykLeave
import Derived.Laws.OwnMore
namespace Go.Proofs.Ybulkcyk
open Go.RowKit

theorem made_list (z : Value) (n : Nat) : (madeCells #[z] n).toList = (List.range n).map fun _ => z := by
  rw [toList_madeCells_one, List.map_const', List.length_range]
theorem mk26 (n : Nat) (hn : n ≤ 1000) (w : World) : (Instr.makeSlice 26 (.int .i64 (n : Int)) (.int .i64 (n : Int))).run Yba.prog w = .ok (.slice (some ⟨w.heap.size, 0, none⟩) n n) (w.alloc (.cells (madeCells #[.int .i64 0] n) 3)) := by
  obtain ⟨i, h1, h2, h3, h4⟩ := info_parts Yba.info3
  have h := run_make (P := Yba.prog) (w := w) 26 3 i _ Yba.underlying26 h1 h2 .i64 .i64 (n : Int) (n : Int) (by omega) (Int.le_refl _) (by rw [h4]; omega) (by omega)
  rw [h3, Int.toNat_natCast, Nat.mul_one] at h
  exact h
theorem mk28 (n : Nat) (hn : n ≤ 1000) (w : World) : (Instr.makeSlice 28 (.int .i64 (n : Int)) (.int .i64 (n : Int))).run Yba.prog w = .ok (.slice (some ⟨w.heap.size, 0, none⟩) n n) (w.alloc (.cells (madeCells #[.bool false] n) 4)) := by
  obtain ⟨i, h1, h2, h3, h4⟩ := info_parts Yba.info4
  have h := run_make (P := Yba.prog) (w := w) 28 4 i _ Yba.underlying28 h1 h2 .i64 .i64 (n : Int) (n : Int) (by omega) (Int.le_refl _) (by rw [h4]; omega) (by omega)
  rw [h3, Int.toNat_natCast, Nat.mul_one] at h
  exact h
theorem mk23 (n : Nat) (hn : n ≤ 1000) (w : World) : (Instr.makeSlice 23 (.int .i64 (n : Int)) (.int .i64 (n : Int))).run Yba.prog w = .ok (.slice (some ⟨w.heap.size, 0, none⟩) n n) (w.alloc (.cells (madeCells #[.slice none 0 0] n) 26)) := by
  obtain ⟨i, h1, h2, h3, h4⟩ := info_parts Yba.info26
  have h := run_make (P := Yba.prog) (w := w) 23 26 i _ Yba.underlying23 h1 h2 .i64 .i64 (n : Int) (n : Int) (by omega) (Int.le_refl _) (by rw [h4]; omega) (by omega)
  rw [h3, Int.toNat_natCast, Nat.mul_one] at h
  exact h
theorem RowP.made {B : Nat} (w : World) (z : Value) (e n : Nat) (hB : B ≤ w.heap.size) (hn : n ≤ 1000) : RowP B (rowF e (.slice (some ⟨w.heap.size, 0, none⟩) n n) n fun _ => z) (w.alloc (.cells (madeCells #[z] n) e)) := by
  refine ⟨by simp [rowF], .inr ⟨w.heap.size, n, madeCells #[z] n, rfl, hB, heap_alloc_new w _, Nat.le_refl _, by unfold maxLen; omega, by show _ = 0 + n * 1; rw [size_madeCells]; omega, ?_⟩⟩
  show ((madeCells #[z] n).toList.drop 0).take (n * 1) = _
  rw [made_list, List.drop_zero, Nat.mul_one, List.take_of_length_le (by simp)]
  rfl
section
variable {w0 w1 w w' : World} {bs B ty : Nat} {own : Nat → Tag} {cs : Array Value} {Rw : Tag → Option RowSpec}
theorem MI.made (h : MI w0 w1 bs B ty own cs Rw w) (t : Tag) (z : Value) (e n : Nat) (hn : n ≤ 1000) : ∃ own', MI w0 w1 bs B ty own' cs (updT Rw t (rowF e (.slice (some ⟨w.heap.size, 0, none⟩) n n) n fun _ => z)) (w.alloc (.cells (madeCells #[z] n) e)) :=
  h.new t (World.grownBy_alloc _ _ _) (RowP.made w z e n h.sz hn) (fun k hk => by cases hk; exact Nat.le_refl _)
end
/-- The struct as run meets it. -/
def cs0 (adjv radjv : Value) (lim num : Int) : Array Value :=
  #[adjv, radjv, .int .i64 lim, .int .i64 num, .slice none 0 0, .slice none 0 0, .int .i64 0, .int .i64 0, .slice none 0 0, .slice none 0 0, .slice none 0 0, .slice none 0 0, .int .i64 0, .slice none 0 0, .slice none 0 0, .slice none 0 0, .slice none 0 0, .int .i64 0, .slice none 0 0, .bool false]
def RwA (n : Nat) (V : Tag → Value) (r : Nat → List Nat) : Tag → Option RowSpec
  | .blsO => some (rowF 26 (V .blsO) n fun v => V (.bls v))
  | .bls v => if v < n then some (rowI (V (.bls v)) (r v)) else none
  | _ => none
/-- The reverse lists, half way. -/
structure RA (w0 w1 : World) (bs B n : Nat) (adjv : Value) (lim num : Int) (own : Nat → Tag) (V : Tag → Value) (r : Nat → List Nat) (w : World) : Prop where
  fx : ∃ b, V .blsO = .slice (some ⟨b, 0, none⟩) n n
  mi : MI w0 w1 bs B 30 own (cs0 adjv (V .blsO) lim num) (RwA n V r) w
section
variable {w0 w1 w w' : World} {bs B n : Nat} {adjv : Value} {lim num : Int} {own : Nat → Tag} {V : Tag → Value} {r : Nat → List Nat}
theorem RA.start (h : MI w0 w1 bs B 30 own (cs0 adjv (.slice none 0 0) lim num) (fun _ => none) w) (hn : n ≤ 1000) : ∃ own' V', RA w0 w1 bs B n adjv lim num own' V' (fun _ => []) ((w.alloc (.cells (madeCells #[.slice none 0 0] n) 26)).setCell ⟨bs, 1, none⟩ (.slice (some ⟨w.heap.size, 0, none⟩) n n)) := by
  obtain ⟨own1, M⟩ := h.made .blsO (.slice none 0 0) 26 n hn
  refine ⟨own1, fun t => if t = .blsO then .slice (some ⟨w.heap.size, 0, none⟩) n n else .slice none 0 0, ⟨_, rfl⟩, ?_⟩
  have M2 := M.setC 1 (.slice (some ⟨w.heap.size, 0, none⟩) n n)
  refine ⟨M2.bel, M2.b0, M2.bsB, M2.sz, M2.keep, M2.st, fun t q hq => ?_⟩
  cases t with
  | blsO => exact M2.row .blsO q (by rw [updT_same]; exact hq)
  | bls v =>
    have hq' : (if v < n then some (rowI (.slice none 0 0) []) else none) = some q := hq
    split at hq'
    · cases hq'
      exact ⟨⟨rfl, .inl ⟨rfl, rfl⟩⟩, fun k hk => by cases hk⟩
    · cases hq'
  | _ => cases hq
theorem RA.form (h : RA w0 w1 bs B n adjv lim num own V r w) {x : Nat} (hx : x < n) : ∃ p cap, V (.bls x) = .slice p (r x).length cap := by
  have hR : RwA n V r (.bls x) = some (rowI (V (.bls x)) (r x)) := if_pos hx
  rcases (h.mi.row _ _ hR).1.2 with ⟨e1, e2⟩ | ⟨g, cap, cur, h1, _⟩
  · have e2' : (r x).length = 0 := e2
    rw [e2']; exact ⟨_, _, e1⟩
  · exact ⟨_, _, h1⟩
theorem RA.cell (h : RA w0 w1 bs B n adjv lim num own V r w) {b x : Nat} (hb : V .blsO = .slice (some ⟨b, 0, none⟩) n n) (hx : x < n) : w.cell? ⟨b, x, none⟩ = some (V (.bls x)) := by
  have := (h.mi.row .blsO _ rfl).1.cell (i := x) (u := V (.bls x)) hb (map_range_get n x _ hx)
  simpa [rowF] using this
theorem RA.push (h : RA w0 w1 bs B n adjv lim num own V r w) (x v : Nat) (hx : x < n) {b g cap : Nat} (hb : V .blsO = .slice (some ⟨b, 0, none⟩) n n) (hg : w.grownBy w' (V (.bls x)).ownBlock) (ho : w'.ownsRow B 3 1 (.slice (some ⟨g, 0, none⟩) ((r x).length + 1) cap) ((r x).length + 1) ((r x).map iv ++ [iv v])) (hat : (V (.bls x)).ownBlock = some g ∨ w.heap.size ≤ g) :
    ∃ own' V', RA w0 w1 bs B n adjv lim num own' V' (upd r x (r x ++ [v])) (w'.setCell ⟨b, x, none⟩ (.slice (some ⟨g, 0, none⟩) ((r x).length + 1) cap)) := by
  have hR : RwA n V r (.bls x) = some (rowI (V (.bls x)) (r x)) := if_pos hx
  obtain ⟨own', M⟩ := h.mi.app (t := .bls x) hR hg ho hat
  have M2 := M.setR (t := .blsO) (r := rowF 26 (V .blsO) n fun v => V (.bls v)) (by rw [updT_other _ _ (by simp)]; rfl) hb rfl x (.slice (some ⟨g, 0, none⟩) ((r x).length + 1) cap)
  refine ⟨own', updV V (.bls x) (.slice (some ⟨g, 0, none⟩) ((r x).length + 1) cap), ⟨b, by rw [updV_other _ _ (by simp)]; exact hb⟩, M2.congr (fun t q hr => ?_) (by rw [updV_other _ _ (by simp)])⟩
  cases t with
  | blsO =>
    rw [updT_same, ← hr]
    show some _ = some (rowF _ _ _ _)
    rw [blsO_upd]
    unfold rowF
    rw [map_set, updV_other _ _ (by simp)]
  | bls y =>
    rw [updT_other _ _ (by simp)]
    by_cases e : y = x
    · subst e
      rw [updT_same, ← hr]
      show some _ = (if y < n then some (rowI _ (upd _ _ _ y)) else none)
      rw [if_pos hx, updV_same, upd_same]
      simp [rowI]
    · rw [updT_other _ _ (by simp [e]), ← hr]
      show (if y < n then some (rowI (V (.bls y)) (r y)) else none) = (if y < n then some (rowI (updV V _ _ (.bls y)) (upd _ _ _ y)) else none)
      rw [updV_other _ _ (by simp [e]), upd_other _ _ e]
  | _ => cases hr
/-- The lists as they lie when they are done. -/
theorem RA.lists (h : RA w0 w1 bs B n adjv lim num own V r w) : Lists w bs w.heap.size n (V .blsO) r := by
  obtain ⟨b, hb⟩ := h.fx
  have hrow := h.mi.row .blsO _ rfl
  have hlt := hrow.1.lt (k := b) (by rw [show (rowF 26 (V .blsO) n _).v = V .blsO from rfl, hb]; rfl)
  have hbs := h.mi.bsB
  refine ⟨b, n, hb, hlt.2, by omega, fun v hv => ?_⟩
  have hR : RwA n V r (.bls v) = some (rowI (V (.bls v)) (r v)) := if_pos hv
  have hr := h.mi.row _ _ hR
  rcases hr.1.2 with ⟨e1, e2⟩ | ⟨g, cap, cur, h1, _⟩
  · have e2' : (r v).length = 0 := e2
    refine ⟨none, 0, ?_, fun h0 => by omega⟩
    rw [h.cell hb hv, e2']
    exact congrArg some e1
  · have h1' : V (.bls v) = .slice (some ⟨g, 0, none⟩) (r v).length cap := h1
    refine ⟨_, cap, by rw [h.cell hb hv, h1'], fun _ => ⟨g, rfl, ?_, ?_, fun i hi => ?_⟩⟩
    · exact (hr.1.lt (k := g) (by rw [show (rowI (V (.bls v)) (r v)).v = V (.bls v) from rfl, h1']; rfl)).2
    · have := (hr.1.lt (k := g) (by rw [show (rowI (V (.bls v)) (r v)).v = V (.bls v) from rfl, h1']; rfl)).1
      omega
    · have := hr.1.cell (i := i) (u := iv ((r v).getD i 0)) h1' (by
        show ((r v).map iv)[i]? = _
        rw [List.getElem?_map, List.getD_eq_getElem?_getD, List.getElem?_eq_getElem hi]
        rfl)
      simpa [rowI] using this
end
/-- The lists' plain side. -/
def radS (v : Nat) (r : Nat → List Nat) (u : Nat) : Nat → List Nat := upd r u (r u ++ [v])
def radK (A : Nat → List Nat) (i k : Nat) : Nat → List Nat := ((A i).take k).foldl (radS i) ((List.range i).foldl (fun r v => (A v).foldl (radS v) r) (fun _ => []))
theorem radK_succ (A : Nat → List Nat) (i k : Nat) (h : k < (A i).length) : radK A i (k + 1) = radS i (radK A i k) ((A i).getD k 0) := by
  unfold radK
  rw [take_succ' h, List.foldl_append]; rfl
theorem radK_next (A : Nat → List Nat) (i : Nat) : radK A i (A i).length = radK A (i + 1) 0 := by
  unfold radK
  rw [List.take_length, List.range_succ, List.foldl_append]; rfl
theorem radS_fold (v : Nat) : ∀ (l : List Nat) (r : Nat → List Nat), l.Nodup → l.foldl (radS v) r = fun u => r u ++ if u ∈ l then [v] else [] := by
  intro l
  induction l with
  | nil => intro r _; simp
  | cons a t ih =>
    intro r hn
    rw [List.foldl_cons, ih _ (List.nodup_cons.1 hn).2]
    have ha := (List.nodup_cons.1 hn).1
    funext u
    unfold radS
    by_cases e : u = a
    · subst e; simp [upd, ha]
    · simp [upd, e]
theorem rad_all {A : Nat → List Nat} (hs : ∀ v, (A v).Pairwise (· < ·)) : ∀ i, (List.range i).foldl (fun r v => (A v).foldl (radS v) r) (fun _ => []) = fun u => (List.range i).filter (fun v => (A v).contains u) := by
  intro i
  induction i with
  | zero => rfl
  | succ i ih =>
    rw [List.range_succ, List.foldl_append, ih]
    show (A i).foldl (radS i) _ = _
    rw [radS_fold _ _ _ ((hs i).imp fun h => by omega)]
    funext u
    rw [List.filter_append]
    congr 1
    by_cases h : u ∈ A i
    · rw [if_pos h, List.filter_cons_of_pos (by simpa using h)]; rfl
    · rw [if_neg h, List.filter_cons_of_neg (by simpa using h)]; rfl
theorem radK_all {A : Nat → List Nat} (hs : ∀ v, (A v).Pairwise (· < ·)) (n : Nat) : radK A n 0 = fun u => (List.range n).filter (fun v => (A v).contains u) := by
  unfold radK
  exact rad_all hs n
theorem radK_len {A : Nat → List Nat} (hs : ∀ v, (A v).Pairwise (· < ·)) (i k u : Nat) : (radK A i k u).length ≤ i + 1 := by
  unfold radK
  rw [rad_all hs, radS_fold _ _ _ (((hs i).imp fun h => by omega : (A i).Nodup).sublist (List.take_sublist _ _))]
  have h1 := List.length_filter_le (fun v => (A v).contains u) (List.range i)
  rw [List.length_range] at h1
  rw [List.length_append]
  have h2 : (if u ∈ (A i).take k then [i] else []).length ≤ 1 := by split <;> simp
  omega
/-- What run leaves. -/
def RunOut (w0 w : World) (bs B n : Nat) (A : Nat → List Nat) (lim num : Int) (w' : World) : Prop :=
  ∃ (E : En) (s : Hs), E.w0 = w0 ∧ E.bs = bs ∧ E.n = n ∧ (∀ y, y < B → y ≠ bs → w'.heap[y]? = w.heap[y]?) ∧ B ≤ E.B ∧ HI E s w' ∧ s.out = modelP A lim n n { cyc := [], num := num, more := false }
end Go.Proofs.Ybulkcyk
