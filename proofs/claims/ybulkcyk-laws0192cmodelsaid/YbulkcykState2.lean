/-
  What append, a shorter slice and a store into a row of rows do to a search's state.
-/
import Derived.Test.YbulkcykState
namespace Go.Proofs.Ybulkcyk
open Go.RowKit

section
variable {w0 w1 w w' : World} {bs B ty : Nat} {own : Nat → Tag} {cs : Array Value} {Rw : Tag → Option RowSpec}
/-- A new row in a new block (or none). -/
theorem MI.new (h : MI w0 w1 bs B ty own cs Rw w) (t : Tag) {r : RowSpec} (hg : w.grownBy w' none) (hr : RowP B r w') (hf : ∀ k, r.v.ownBlock = some k → w.heap.size ≤ k) : ∃ own', MI w0 w1 bs B ty own' cs (updT Rw t r) w' := by
  have h' := h.grow hg
  refine ⟨fun k => if w.heap.size ≤ k then t else own k, h'.bel, h'.b0, h'.bsB, h'.sz, h'.keep, h'.st, fun u q hq => ?_⟩
  by_cases e : u = t
  · subst e
    rw [updT_same] at hq
    cases hq
    exact ⟨hr, fun k hk => if_pos (hf k hk)⟩
  · rw [updT_other _ _ e] at hq
    obtain ⟨a, b⟩ := h'.row u q hq
    refine ⟨a, fun k hk => ?_⟩
    have := ((h.row u q hq).1.lt hk).2
    show (if w.heap.size ≤ k then t else own k) = u
    rw [if_neg (by omega)]
    exact b k hk
end
theorem RowP.take {B : Nat} {r : RowSpec} {w : World} (h : RowP B r w) {g cap k : Nat} (hv : r.v = .slice (some ⟨g, r.off, none⟩) r.n cap) (hk : k ≤ r.n) : RowP B { r with v := .slice (some ⟨g, r.off, none⟩) k cap, n := k, xs := r.xs.take (k * r.sz) } w := by
  have hkm : k * r.sz ≤ r.n * r.sz := Nat.mul_le_mul_right _ hk
  refine ⟨by show (r.xs.take (k * r.sz)).length = k * r.sz; rw [List.length_take, h.1]; omega, .inr ?_⟩
  rcases h.2 with ⟨e, _⟩ | ⟨g', cap', cur, h1, h2, h3, h4, h5, h6, h7⟩
  · rw [e] at hv; cases hv
  · rw [h1] at hv
    cases hv
    refine ⟨g, cap, cur, rfl, h2, h3, by show k ≤ cap; omega, h5, h6, ?_⟩
    show (cur.toList.drop r.off).take (k * r.sz) = r.xs.take (k * r.sz)
    rw [← h7, List.take_take, Nat.min_eq_left hkm]
/-- The row without its first element. -/
theorem RowP.tail {B : Nat} {r : RowSpec} {w : World} (h : RowP B r w) (hs : r.sz = 1) {g cap : Nat} (hv : r.v = .slice (some ⟨g, r.off, none⟩) r.n cap) (hn : 0 < r.n) : RowP B { r with v := .slice (some ⟨g, r.off + 1, none⟩) (r.n - 1) (cap - 1), n := r.n - 1, xs := r.xs.tail, off := r.off + 1 } w := by
  refine ⟨by show r.xs.tail.length = (r.n - 1) * r.sz; rw [List.length_tail, h.1, hs]; omega, .inr ?_⟩
  rcases h.2 with ⟨e, _⟩ | ⟨g', cap', cur, h1, h2, h3, h4, h5, h6, h7⟩
  · rw [e] at hv; cases hv
  · rw [h1] at hv
    cases hv
    refine ⟨g, cap - 1, cur, rfl, h2, h3, by show r.n - 1 ≤ cap - 1; omega, by omega, by show cur.size = r.off + 1 + (cap - 1) * r.sz; rw [hs] at h6 ⊢; omega, ?_⟩
    show (cur.toList.drop (r.off + 1)).take ((r.n - 1) * r.sz) = r.xs.tail
    rw [← h7, hs, Nat.mul_one, Nat.mul_one, ← List.drop_one, List.drop_take, List.drop_drop]

theorem prtX_succ (V : Tag → Value) (loo : Nat → Int) (np : Nat) : prtX V loo (np + 1) = prtX V loo np ++ [V (.mem np), .int .i64 (loo np)] := by
  unfold prtX
  rw [List.range_succ, List.flatMap_append]
  simp
theorem prtX_len (V : Tag → Value) (loo : Nat → Int) (np : Nat) : (prtX V loo np).length = np * 2 := by
  induction np with
  | zero => rfl
  | succ np ih => rw [prtX_succ, List.length_append, ih]; simp; omega
theorem prtX_get0 (V : Tag → Value) (loo : Nat → Int) (np p : Nat) (h : p < np) : (prtX V loo np)[p * 2]? = some (V (.mem p)) := by
  induction np with
  | zero => omega
  | succ np ih =>
    rw [prtX_succ]
    by_cases e : p < np
    · rw [List.getElem?_append_left (by rw [prtX_len]; omega)]; exact ih e
    · obtain rfl : p = np := by omega
      rw [List.getElem?_append_right (by rw [prtX_len]; omega), prtX_len]; simp
theorem prtX_get1 (V : Tag → Value) (loo : Nat → Int) (np p : Nat) (h : p < np) : (prtX V loo np)[p * 2 + 1]? = some (.int .i64 (loo p)) := by
  induction np with
  | zero => omega
  | succ np ih =>
    rw [prtX_succ]
    by_cases e : p < np
    · rw [List.getElem?_append_left (by rw [prtX_len]; omega)]; exact ih e
    · obtain rfl : p = np := by omega
      rw [List.getElem?_append_right (by rw [prtX_len]; omega), prtX_len, show p * 2 + 1 - p * 2 = 1 by omega]; rfl
theorem prtX_congr {V V' : Tag → Value} {loo loo' : Nat → Int} {np : Nat} (h1 : ∀ p, p < np → V (.mem p) = V' (.mem p)) (h2 : ∀ p, p < np → loo p = loo' p) : prtX V loo np = prtX V' loo' np := by
  induction np with
  | zero => rfl
  | succ np ih => rw [prtX_succ, prtX_succ, ih (fun p hp => h1 p (by omega)) (fun p hp => h2 p (by omega)), h1 np (by omega), h2 np (by omega)]
theorem prtX_set0 (V : Tag → Value) (loo : Nat → Int) (np p : Nat) (x : Value) (h : p < np) : (prtX V loo np).set (p * 2) x = prtX (updV V (.mem p) x) loo np := by
  induction np with
  | zero => omega
  | succ np ih =>
    rw [prtX_succ, prtX_succ]
    by_cases e : p < np
    · rw [List.set_append_left _ _ (by rw [prtX_len]; omega), ih e, updV_other _ _ (by simp; omega)]
    · obtain rfl : p = np := by omega
      rw [List.set_append_right _ _ (by rw [prtX_len]; omega), prtX_len, updV_same, show p * 2 - p * 2 = 0 by omega]
      rw [prtX_congr (V' := V) (loo' := loo) (fun q hq => updV_other _ _ (by simp; omega)) (fun _ _ => rfl)]
      rfl
theorem prtX_set1 (V : Tag → Value) (loo : Nat → Int) (np p : Nat) (x : Int) (h : p < np) : (prtX V loo np).set (p * 2 + 1) (.int .i64 x) = prtX V (upd loo p x) np := by
  induction np with
  | zero => omega
  | succ np ih =>
    rw [prtX_succ, prtX_succ]
    by_cases e : p < np
    · rw [List.set_append_left _ _ (by rw [prtX_len]; omega), ih e, upd_other _ _ (by omega)]
    · obtain rfl : p = np := by omega
      rw [List.set_append_right _ _ (by rw [prtX_len]; omega), prtX_len, upd_same, show p * 2 + 1 - p * 2 = 1 by omega]
      rw [prtX_congr (V' := V) (loo' := loo) (fun _ _ => rfl) (fun q hq => upd_other _ _ (by omega))]
      rfl

section
variable {E : En} {own : Nat → Tag} {V : Tag → Value} {s : Hs} {w w' : World}
theorem fx_upd (h : ∀ t, fixed t = true → ∃ b, V t = .slice (some ⟨b, 0, none⟩) E.n E.n) {t : Tag} (ht : fixed t = false) (x : Value) : ∀ u, fixed u = true → ∃ b, updV V t x u = .slice (some ⟨b, 0, none⟩) E.n E.n := fun u hu => by
  rw [updV_other _ _ (fun e => by rw [e, ht] at hu; cases hu)]; exact h u hu

theorem HV.pushPath (h : HV E own V s w) (v : Nat) {g cap : Nat} (hg : w.grownBy w' (V .path).ownBlock) (ho : w'.ownsRow E.B 3 1 (.slice (some ⟨g, 0, none⟩) (s.path.length + 1) cap) (s.path.length + 1) (s.path.map iv ++ [iv v])) (hat : (V .path).ownBlock = some g ∨ w.heap.size ≤ g) :
    ∃ own', HV E own' (updV V .path (.slice (some ⟨g, 0, none⟩) (s.path.length + 1) cap)) { s with path := s.path ++ [v] } (w'.setCell ⟨E.bs, 10, none⟩ (.slice (some ⟨g, 0, none⟩) (s.path.length + 1) cap)) := by
  obtain ⟨own', M⟩ := h.mi.app (t := .path) rfl hg ho hat
  refine ⟨own', fx_upd h.fx rfl _, (M.setC 10 _).congr (fun t r hr => ?_) rfl⟩
  cases t <;> try exact hr
  rw [updT_same, ← hr]
  show some _ = some (rowI _ _)
  unfold rowI
  simp [updV_same]
theorem HV.pushStk (h : HV E own V s w) (v : Nat) {g cap : Nat} (hg : w.grownBy w' (V .stk).ownBlock) (ho : w'.ownsRow E.B 3 1 (.slice (some ⟨g, 0, none⟩) (s.tj.stk.length + 1) cap) (s.tj.stk.length + 1) (s.tj.stk.map iv ++ [iv v])) (hat : (V .stk).ownBlock = some g ∨ w.heap.size ≤ g) :
    ∃ own', HV E own' (updV V .stk (.slice (some ⟨g, 0, none⟩) (s.tj.stk.length + 1) cap)) { s with tj := { s.tj with stk := s.tj.stk ++ [v] } } (w'.setCell ⟨E.bs, 16, none⟩ (.slice (some ⟨g, 0, none⟩) (s.tj.stk.length + 1) cap)) := by
  obtain ⟨own', M⟩ := h.mi.app (t := .stk) rfl hg ho hat
  refine ⟨own', fx_upd h.fx rfl _, (M.setC 16 _).congr (fun t r hr => ?_) rfl⟩
  cases t <;> try exact hr
  rw [updT_same, ← hr]
  show some _ = some (rowI _ _)
  unfold rowI
  simp [updV_same]
theorem HV.popPath (h : HV E own V s w) {g cap : Nat} (hv : V .path = .slice (some ⟨g, 0, none⟩) s.path.length cap) (k : Nat) (hk : k ≤ s.path.length) :
    HV E own (updV V .path (.slice (some ⟨g, 0, none⟩) k cap)) { s with path := s.path.take k } (w.setCell ⟨E.bs, 10, none⟩ (.slice (some ⟨g, 0, none⟩) k cap)) := by
  have hr := (h.mi.row .path _ rfl).1.take (k := k) hv hk
  refine ⟨fx_upd h.fx rfl _, ((h.mi.sub (t := .path) rfl hr (fun q hq => by rw [show (rowI (V .path) s.path).v = V .path from rfl, hv]; exact hq)).setC 10 _).congr (fun t r hr => ?_) rfl⟩
  cases t <;> try exact hr
  rw [updT_same, ← hr]
  show some _ = some (rowI _ _)
  unfold rowI
  simp [updV_same, List.map_take, hk]
theorem HV.truncStk (h : HV E own V s w) {g cap : Nat} (hv : V .stk = .slice (some ⟨g, 0, none⟩) s.tj.stk.length cap) (k : Nat) (hk : k ≤ s.tj.stk.length) :
    HV E own (updV V .stk (.slice (some ⟨g, 0, none⟩) k cap)) { s with tj := { s.tj with stk := s.tj.stk.take k } } (w.setCell ⟨E.bs, 16, none⟩ (.slice (some ⟨g, 0, none⟩) k cap)) := by
  have hr := (h.mi.row .stk _ rfl).1.take (k := k) hv hk
  refine ⟨fx_upd h.fx rfl _, ((h.mi.sub (t := .stk) rfl hr (fun q hq => by rw [show (rowI (V .stk) s.tj.stk).v = V .stk from rfl, hv]; exact hq)).setC 16 _).congr (fun t r hr => ?_) rfl⟩
  cases t <;> try exact hr
  rw [updT_same, ← hr]
  show some _ = some (rowI _ _)
  unfold rowI
  simp [updV_same, List.map_take, hk]
theorem blsO_upd (V : Tag → Value) (x : Nat) (a : Value) : (fun v => updV V (.bls x) a (.bls v)) = upd (fun v => V (.bls v)) x a := by
  funext v
  by_cases e : v = x
  · subst e; simp [updV, upd]
  · simp [updV, upd, e]
/-- s.blocks[x] = append(s.blocks[x], v). -/
theorem HV.pushBls (h : HV E own V s w) (x v : Nat) (hx : x < E.n) {b g cap : Nat} (hb : V .blsO = .slice (some ⟨b, 0, none⟩) E.n E.n) (hg : w.grownBy w' (V (.bls x)).ownBlock) (ho : w'.ownsRow E.B 3 1 (.slice (some ⟨g, 0, none⟩) ((s.jn.bls x).length + 1) cap) ((s.jn.bls x).length + 1) ((s.jn.bls x).map iv ++ [iv v])) (hat : (V (.bls x)).ownBlock = some g ∨ w.heap.size ≤ g) :
    ∃ own', HV E own' (updV V (.bls x) (.slice (some ⟨g, 0, none⟩) ((s.jn.bls x).length + 1) cap)) { s with jn := { s.jn with bls := upd s.jn.bls x (s.jn.bls x ++ [v]) } } (w'.setCell ⟨b, x, none⟩ (.slice (some ⟨g, 0, none⟩) ((s.jn.bls x).length + 1) cap)) := by
  have hR : RwOf E.n V s (.bls x) = some (rowI (V (.bls x)) (s.jn.bls x)) := if_pos hx
  obtain ⟨own', M⟩ := h.mi.app (t := .bls x) hR hg ho hat
  have M2 := M.setR (t := .blsO) (r := rowF 26 (V .blsO) E.n fun v => V (.bls v)) (by rw [updT_other _ _ (by simp)]; rfl) hb rfl x (.slice (some ⟨g, 0, none⟩) ((s.jn.bls x).length + 1) cap)
  refine ⟨own', fx_upd h.fx rfl _, M2.congr (fun t r hr => ?_) rfl⟩
  cases t with
  | blsO =>
    rw [updT_same, ← hr]
    show some _ = some (rowF _ _ _ _)
    rw [blsO_upd]
    unfold rowF
    rw [map_set, updV_other _ _ (by simp)]
  | bls y =>
    rw [updT_other _ _ (by simp)]
    by_cases e : y = x
    · subst e
      rw [updT_same, ← hr]
      show some _ = (if y < E.n then some (rowI _ (upd _ _ _ y)) else none)
      rw [if_pos hx, updV_same, upd_same]
      simp [rowI]
    · rw [updT_other _ _ (by simp [e]), ← hr]
      show (if y < E.n then some (rowI (V (.bls y)) (s.jn.bls y)) else none) = (if y < E.n then some (rowI (updV V _ _ (.bls y)) (upd _ _ _ y)) else none)
      rw [updV_other _ _ (by simp [e]), upd_other _ _ e]
  | _ => exact hr
/-- s.blocks[x] = s.blocks[x][:k]. -/
theorem HV.popBls (h : HV E own V s w) (x : Nat) (hx : x < E.n) {b g cap : Nat} (hb : V .blsO = .slice (some ⟨b, 0, none⟩) E.n E.n) (hv : V (.bls x) = .slice (some ⟨g, 0, none⟩) (s.jn.bls x).length cap) (k : Nat) (hk : k ≤ (s.jn.bls x).length) :
    HV E own (updV V (.bls x) (.slice (some ⟨g, 0, none⟩) k cap)) { s with jn := { s.jn with bls := upd s.jn.bls x ((s.jn.bls x).take k) } } (w.setCell ⟨b, x, none⟩ (.slice (some ⟨g, 0, none⟩) k cap)) := by
  have hR : RwOf E.n V s (.bls x) = some (rowI (V (.bls x)) (s.jn.bls x)) := if_pos hx
  have hr := (h.mi.row (.bls x) _ hR).1.take (k := k) hv hk
  have M := h.mi.sub (t := .bls x) hR hr (fun q hq => by rw [show (rowI (V (.bls x)) (s.jn.bls x)).v = V (.bls x) from rfl, hv]; exact hq)
  have M2 := M.setR (t := .blsO) (r := rowF 26 (V .blsO) E.n fun v => V (.bls v)) (by rw [updT_other _ _ (by simp)]; rfl) hb rfl x (.slice (some ⟨g, 0, none⟩) k cap)
  refine ⟨fx_upd h.fx rfl _, M2.congr (fun t r hr => ?_) rfl⟩
  cases t with
  | blsO =>
    rw [updT_same, ← hr]
    show some _ = some (rowF _ _ _ _)
    rw [blsO_upd]
    unfold rowF
    rw [map_set, updV_other _ _ (by simp)]
  | bls y =>
    rw [updT_other _ _ (by simp)]
    by_cases e : y = x
    · subst e
      rw [updT_same, ← hr]
      show some _ = (if y < E.n then some (rowI _ (upd _ _ _ y)) else none)
      rw [if_pos hx, updV_same, upd_same]
      simp [rowI, List.map_take, hk]
    · rw [updT_other _ _ (by simp [e]), ← hr]
      show (if y < E.n then some (rowI (V (.bls y)) (s.jn.bls y)) else none) = (if y < E.n then some (rowI (updV V _ _ (.bls y)) (upd _ _ _ y)) else none)
      rw [updV_other _ _ (by simp [e]), upd_other _ _ e]
  | _ => exact hr
end
end Go.Proofs.Ybulkcyk
