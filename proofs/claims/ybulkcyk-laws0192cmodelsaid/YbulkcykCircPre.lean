/-
  What the walk of circuit stands on: the lists; a cycle recorded.
-/
import Derived.Test.YbulkcykUnb
import Derived.Test.YbulkcykJohn2
import Derived.Test.YbulkcykLib
namespace Go.Proofs.Ybulkcyk
open Go.RowKit

theorem own_base {W : World} {base base' : Nat} {e : TypeId} {size : Nat} {v : Value} {k : Nat} {xs : List Value} (h : W.ownsRow base e size v k xs) (hb : base' ≤ base) : W.ownsRow base' e size v k xs :=
  ⟨h.1, h.2.imp id fun ⟨g, cap, cur, h1, h2, h3⟩ => ⟨g, cap, cur, h1, Nat.le_trans hb h2, h3⟩⟩
/-- A list of lists, all below B and off bs. -/
structure Lists (w1 : World) (bs B n : Nat) (lv : Value) (A : Nat → List Nat) : Prop where
  ex : ∃ ga c, lv = .slice (some ⟨ga, 0, none⟩) n c ∧ ga < B ∧ ga ≠ bs ∧ ∀ v, v < n → ∃ p c, w1.cell? ⟨ga, v, none⟩ = some (.slice p (A v).length c) ∧ (0 < (A v).length → ∃ g, p = some ⟨g, 0, none⟩ ∧ g < B ∧ g ≠ bs ∧ ∀ i, i < (A v).length → w1.cell? ⟨g, i, none⟩ = some (iv ((A v).getD i 0)))
/-- What stays throughout a search. -/
structure EH (E : En) : Prop where
  n7 : E.n ≤ 7
  lt : ∀ v, ∀ w ∈ E.A v, w < E.n
  srt : ∀ v, (E.A v).Pairwise (· < ·)
  adj : Lists E.w1 E.bs E.B E.n E.adjv E.A
  rad : Lists E.w1 E.bs E.B E.n E.radjv E.R
/-- The list of v, as it lies. -/
theorem HV.list {E : En} {own : Nat → Tag} {V : Tag → Value} {s : Hs} {w : World} (H : HV E own V s w) {lv : Value} {A : Nat → List Nat} (L : Lists E.w1 E.bs E.B E.n lv A) {v : Nat} (hv : v < E.n) :
    ∃ ga c p c2, lv = .slice (some ⟨ga, 0, none⟩) E.n c ∧ w.cell? ⟨ga, v, none⟩ = some (.slice p (A v).length c2) ∧ SlR w p (A v) := by
  obtain ⟨ga, c, e, h1, h2, h3⟩ := L.ex
  obtain ⟨p, c2, h4, h5⟩ := h3 v hv
  refine ⟨ga, c, p, c2, e, (H.mi.kcell h1 h2).trans h4, fun h0 => ?_⟩
  obtain ⟨g, rfl, h6, h7, h8⟩ := h5 h0
  exact ⟨g, 0, rfl, fun i hi => by rw [Nat.zero_add, H.mi.kcell (a := ⟨g, i, none⟩) h6 h7]; exact h8 i hi⟩
/-- .. at whatever world comes later: the same values. -/
theorem Lists.at {E : En} {lv : Value} {A : Nat → List Nat} (L : Lists E.w1 E.bs E.B E.n lv A) {v : Nat} (hv : v < E.n) :
    ∃ ga c p c2, lv = .slice (some ⟨ga, 0, none⟩) E.n c ∧ ∀ own V s w, HV E own V s w → w.cell? ⟨ga, v, none⟩ = some (.slice p (A v).length c2) ∧ SlR w p (A v) := by
  obtain ⟨ga, c, e, h1, h2, h3⟩ := L.ex
  obtain ⟨p, c2, h4, h5⟩ := h3 v hv
  refine ⟨ga, c, p, c2, e, fun own V s w H => ⟨(H.mi.kcell h1 h2).trans h4, fun h0 => ?_⟩⟩
  obtain ⟨g, rfl, h6, h7, h8⟩ := h5 h0
  exact ⟨g, 0, rfl, fun i hi => by rw [Nat.zero_add, H.mi.kcell (a := ⟨g, i, none⟩) h6 h7]; exact h8 i hi⟩

theorem getD_app {pre suf : List Nat} {w d : Nat} : (pre ++ w :: suf).getD pre.length d = w := by simp

/-- s.cycles = append(s.cycles, cv): cv is a new row. -/
theorem HV.pushCyc {E : En} {own : Nat → Tag} {V : Tag → Value} {s : Hs} {w w2 w' : World} (h : HV E own V s w) {g0 cap0 g cap : Nat} (hg0 : w.grownBy w2 none) (ho0 : w2.ownsRow E.B 3 1 (.slice (some ⟨g0, 0, none⟩) s.path.length cap0) s.path.length (s.path.map iv)) (hf : w.heap.size ≤ g0)
    (hg : w2.grownBy w' (V .cycO).ownBlock) (ho : w'.ownsRow E.B 26 1 (.slice (some ⟨g, 0, none⟩) (s.out.cyc.length + 1) cap) (s.out.cyc.length + 1) ((List.range s.out.cyc.length).map (fun k => V (.cyc k)) ++ [.slice (some ⟨g0, 0, none⟩) s.path.length cap0])) (hat : (V .cycO).ownBlock = some g ∨ w2.heap.size ≤ g) :
    ∃ own' V', HV E own' V' { s with out := { s.out with cyc := s.out.cyc ++ [s.path] } } (w'.setCell ⟨E.bs, 18, none⟩ (.slice (some ⟨g, 0, none⟩) (s.out.cyc.length + 1) cap)) := by
  obtain ⟨own1, M1⟩ := h.mi.new (.cyc s.out.cyc.length) hg0 (RowP.of_owns ho0) (fun k hk => by cases hk; exact hf)
  obtain ⟨own2, M2⟩ := M1.app (t := .cycO) (r := rowF 26 (V .cycO) s.out.cyc.length fun k => V (.cyc k)) (by rw [updT_other _ _ (by simp)]; rfl) hg ho hat
  refine ⟨own2, updV (updV V (.cyc s.out.cyc.length) (.slice (some ⟨g0, 0, none⟩) s.path.length cap0)) .cycO (.slice (some ⟨g, 0, none⟩) (s.out.cyc.length + 1) cap), fx_upd (fx_upd h.fx rfl _) rfl _, (M2.setC 18 _).congr (fun t r hr => ?_) rfl⟩
  cases t with
  | cycO =>
    rw [updT_same, ← hr]
    show some _ = some (rowF _ _ _ _)
    unfold rowF
    rw [updV_same]
    simp only [List.length_append, List.length_cons, List.length_nil, List.range_succ, List.map_append, List.map_cons, List.map_nil]
    rw [updV_other (t := .cycO) _ _ (by simp), updV_same]
    rw [List.map_congr_left (l := List.range s.out.cyc.length) (f := fun k => updV (updV V (.cyc s.out.cyc.length) (.slice (some ⟨g0, 0, none⟩) s.path.length cap0)) .cycO (.slice (some ⟨g, 0, none⟩) (s.out.cyc.length + 1) cap) (.cyc k)) (g := fun k => V (.cyc k)) (fun k hk => by
      have := List.mem_range.1 hk
      rw [updV_other _ _ (by simp), updV_other _ _ (by simp; omega)])]
  | cyc k =>
    rw [updT_other _ _ (by simp)]
    have hr' : (if k < (s.out.cyc ++ [s.path]).length then some (rowI (updV (updV V (.cyc s.out.cyc.length) (.slice (some ⟨g0, 0, none⟩) s.path.length cap0)) .cycO (.slice (some ⟨g, 0, none⟩) (s.out.cyc.length + 1) cap) (.cyc k)) ((s.out.cyc ++ [s.path]).getD k [])) else none) = some r := hr
    rw [updV_other _ _ (by simp)] at hr'
    by_cases e : k = s.out.cyc.length
    · subst e
      rw [updT_same, ← hr', if_pos (by simp), updV_same]
      simp [rowI]
    · rw [updT_other _ _ (by simp [e]), ← hr', updV_other _ _ (by simp [e])]
      show (if k < s.out.cyc.length then some (rowI (V (.cyc k)) (s.out.cyc.getD k [])) else none) = _
      by_cases hk : k < s.out.cyc.length
      · rw [if_pos hk, if_pos (by simp; omega), List.getD_eq_getElem?_getD, List.getD_eq_getElem?_getD, List.getElem?_append_left hk]
      · rw [if_neg hk, if_neg (by simp; omega)]
  | _ => exact hr
theorem HV.formC {E : En} {own : Nat → Tag} {V : Tag → Value} {s : Hs} {w : World} (h : HV E own V s w) : ∃ p c, V .cycO = .slice p s.out.cyc.length c := by
  rcases (h.mi.row .cycO _ rfl).1.2 with ⟨e1, e2⟩ | ⟨g, cap, cur, h1, _⟩
  · have e2' : s.out.cyc.length = 0 := e2
    rw [e2']; exact ⟨_, _, e1⟩
  · exact ⟨_, _, h1⟩
theorem MI.far {w0 w1 w w' : World} {bs B ty : Nat} {own : Nat → Tag} {cs : Array Value} {Rw : Tag → Option RowSpec} (h : MI w0 w1 bs B ty own cs Rw w) {t : Tag} {r : RowSpec} (hr : Rw t = some r) (hg : w.grownBy w' r.v.ownBlock) : w'.heap[bs]? = some (.cells cs ty (0, 0)) :=
  blk_kept hg (fun e => by have := ((h.row t r hr).1.lt e).1; have := h.bsB; omega) h.st
theorem MI.rowFar {w0 w1 w w' : World} {bs B ty : Nat} {own : Nat → Tag} {cs : Array Value} {Rw : Tag → Option RowSpec} (h : MI w0 w1 bs B ty own cs Rw w) {t u : Tag} {r q : RowSpec} (hr : Rw t = some r) (hq : Rw u = some q) (hne : u ≠ t) (hg : w.grownBy w' r.v.ownBlock) : RowP B q w' :=
  (h.row u q hq).1.kept hg (fun k hk he => hne (((h.row u q hq).2 k hk).symm.trans ((h.row t r hr).2 k he)))
end Go.Proofs.Ybulkcyk
