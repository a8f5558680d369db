/-
  The parts, as they lie: a row of (members, loose), each members' slice a row of its own.
-/
import Derived.Test.YbulkcykState2
namespace Go.Proofs.Ybulkcyk
open Go.RowKit

section
variable {E : En} {own : Nat → Tag} {V : Tag → Value} {s : Hs} {w w' : World}
def memRow (V : Tag → Value) (s : Hs) (p : Nat) : RowSpec := { rowI (V (.mem p)) (s.mem p) with off := s.off p }
theorem RwOf_mem {n : Nat} {p : Nat} (hp : p < s.tj.np) : RwOf n V s (.mem p) = some (memRow V s p) := if_pos hp
theorem HV.prtForm (h : HV E own V s w) (hp : 0 < s.tj.np) : ∃ g cap, V .prt = .slice (some ⟨g, 0, none⟩) s.tj.np cap ∧ s.tj.np ≤ cap ∧ cap ≤ maxLen ∧ (∀ p, p < s.tj.np → w.cell? ⟨g, p * 2, none⟩ = some (V (.mem p)) ∧ w.cell? ⟨g, p * 2 + 1, none⟩ = some (.int .i64 (s.loo p))) ∧ ∀ i, w.frozen? ⟨g, i, none⟩ = false := by
  have hr := (h.mi.row .prt _ rfl).1
  rcases hr.2 with ⟨_, e⟩ | ⟨g, cap, cur, h1, _, _, h4, h5, _⟩
  · have e' : s.tj.np = 0 := e; omega
  · refine ⟨g, cap, h1, h4, h5, fun p hp' => ⟨?_, ?_⟩, fun i => hr.frozen h1 i⟩
    · have := hr.cell h1 (prtX_get0 V s.loo s.tj.np p hp')
      simpa using this
    · have := hr.cell h1 (prtX_get1 V s.loo s.tj.np p hp')
      simpa using this
theorem HV.setLoo (h : HV E own V s w) {g cap : Nat} (hv : V .prt = .slice (some ⟨g, 0, none⟩) s.tj.np cap) (p : Nat) (hp : p < s.tj.np) (x : Int) : HV E own V { s with loo := upd s.loo p x } (w.setCell ⟨g, p * 2 + 1, none⟩ (.int .i64 x)) :=
  ⟨h.fx, (h.mi.setR (t := .prt) rfl hv rfl (p * 2 + 1) _).congr (fun t r hr => by
    cases t <;> try exact hr
    rw [updT_same, ← hr]
    show some _ = some _
    rw [prtX_set1 _ _ _ _ _ hp]) rfl⟩
/-- The outer cell of part p takes a slice; the row itself is r'. -/
theorem HV.memPut (hfx : ∀ t, fixed t = true → ∃ b, V t = .slice (some ⟨b, 0, none⟩) E.n E.n) {p g cap : Nat} {x : Value} {l : List Nat} {o : Nat} {held : Option RowSpec} (hp : p < s.tj.np) (hv : V .prt = .slice (some ⟨g, 0, none⟩) s.tj.np cap)
    {Rw : Tag → Option RowSpec} (M : MI E.w0 E.w1 E.bs E.B 30 own (csOf E V s) Rw w) (hprt : Rw .prt = RwOf E.n V s .prt) (hmem : Rw (.mem p) = some { rowI x l with off := o }) (hheld : Rw .held = held) (hoth : ∀ t, t ≠ .prt → t ≠ .mem p → t ≠ .held → Rw t = RwOf E.n V s t) :
    HV E own (updV V (.mem p) x) { s with mem := upd s.mem p l, off := upd s.off p o, held := held } (w.setCell ⟨g, p * 2, none⟩ x) := by
  have M2 := M.setR (t := .prt) (r := ⟨41, 2, V .prt, s.tj.np, prtX V s.loo s.tj.np, 0⟩) (by rw [hprt]; rfl) hv rfl (p * 2) x
  refine ⟨fx_upd hfx rfl _, M2.congr (fun t r hr => ?_) rfl⟩
  cases t with
  | prt =>
    rw [updT_same, ← hr]
    show some _ = some (RowSpec.mk _ _ (updV V (.mem p) x .prt) _ (prtX (updV V (.mem p) x) s.loo s.tj.np) _)
    rw [prtX_set0 _ _ _ _ _ hp, updV_other _ _ (by simp)]
  | held => rw [updT_other _ _ (by simp), hheld]; exact hr
  | mem q =>
    rw [updT_other _ _ (by simp)]
    by_cases e : q = p
    · subst e
      rw [hmem, ← hr]
      show _ = (if q < s.tj.np then some { rowI (updV V (.mem q) x (.mem q)) (upd s.mem q l q) with off := upd s.off q o q } else none)
      rw [if_pos hp, updV_same, upd_same, upd_same]
    · rw [hoth _ (by simp) (by simp [e]) (by simp), ← hr]
      show (if q < s.tj.np then some { rowI (V (.mem q)) (s.mem q) with off := s.off q } else none) = (if q < s.tj.np then some { rowI (updV V (.mem p) x (.mem q)) (upd s.mem p l q) with off := upd s.off p o q } else none)
      rw [updV_other _ _ (by simp [e]), upd_other _ _ e, upd_other _ _ e]
  | _ => rw [updT_other _ _ (by simp), hoth _ (by simp) (by simp) (by simp)]; exact hr
/-- s.parts[p].members = append(s.parts[p].members, v). -/
theorem HV.pushMem (h : HV E own V s w) (p v : Nat) (hp : p < s.tj.np) (hoff : s.off p = 0) {g cap g2 cap2 : Nat} (hv : V .prt = .slice (some ⟨g, 0, none⟩) s.tj.np cap) (hg : w.grownBy w' (V (.mem p)).ownBlock) (ho : w'.ownsRow E.B 3 1 (.slice (some ⟨g2, 0, none⟩) ((s.mem p).length + 1) cap2) ((s.mem p).length + 1) ((s.mem p).map iv ++ [iv v])) (hat : (V (.mem p)).ownBlock = some g2 ∨ w.heap.size ≤ g2) :
    ∃ own' V', HV E own' V' { s with mem := upd s.mem p (s.mem p ++ [v]) } (w'.setCell ⟨g, p * 2, none⟩ (.slice (some ⟨g2, 0, none⟩) ((s.mem p).length + 1) cap2)) := by
  obtain ⟨own', M⟩ := h.mi.app (t := .mem p) (RwOf_mem hp) hg ho hat
  refine ⟨own', updV V (.mem p) (.slice (some ⟨g2, 0, none⟩) ((s.mem p).length + 1) cap2), ?_⟩
  have := HV.memPut (s := s) (l := s.mem p ++ [v]) (o := 0) (held := s.held) (x := .slice (some ⟨g2, 0, none⟩) ((s.mem p).length + 1) cap2) h.fx hp hv M (updT_other _ _ (by simp)) (by rw [updT_same]; simp [rowI, memRow]) (by rw [updT_other _ _ (by simp)]; rfl) (fun t _ h2 _ => updT_other _ _ h2)
  have e : upd s.off p 0 = s.off := by
    funext q
    by_cases e : q = p
    · subst e; rw [upd_same, hoff]
    · rw [upd_other _ _ e]
  rw [e] at this
  exact this
/-- members := s.parts[p].members; s.parts[p].members = nil: the row is held. -/
theorem HV.holdMem (h : HV E own V s w) (p : Nat) (hp : p < s.tj.np) (hh : s.held = none) {g cap : Nat} (hv : V .prt = .slice (some ⟨g, 0, none⟩) s.tj.np cap) :
    ∃ own' V', HV E own' V' { s with mem := upd s.mem p [], off := upd s.off p 0, held := some (memRow V s p) } (w.setCell ⟨g, p * 2, none⟩ (.slice none 0 0)) := by
  obtain ⟨own', M⟩ := h.mi.retag (t := .mem p) (t2 := .held) (RwOf_mem hp) (by show s.held = none; exact hh) (by simp)
  exact ⟨own', _, HV.memPut (s := s) (l := []) (o := 0) (held := some (memRow V s p)) (x := .slice none 0 0) h.fx hp hv M (by rw [updT_other _ _ (by simp), updT_other _ _ (by simp)]) (by rw [updT_same]; rfl) (by rw [updT_other _ _ (by simp), updT_same]) (fun t _ h2 h3 => by rw [updT_other _ _ h2, updT_other _ _ h3])⟩
/-- The row is held no more. -/
theorem HV.drop (h : HV E own V s w) : HV E own V { s with held := none } w := ⟨h.fx, h.mi.congr (fun t r hr => by cases t <;> first | exact hr | cases hr) rfl⟩
/-- p.members = p.members[1:]. -/
theorem HV.tailMem (h : HV E own V s w) (p : Nat) (hp : p < s.tj.np) {g cap g2 cap2 : Nat} (hv : V .prt = .slice (some ⟨g, 0, none⟩) s.tj.np cap) (hm : V (.mem p) = .slice (some ⟨g2, s.off p, none⟩) (s.mem p).length cap2) (hl : 0 < (s.mem p).length) :
    ∃ V', HV E own V' { s with mem := upd s.mem p (s.mem p).tail, off := upd s.off p (s.off p + 1) } (w.setCell ⟨g, p * 2, none⟩ (.slice (some ⟨g2, s.off p + 1, none⟩) ((s.mem p).length - 1) (cap2 - 1))) := by
  have hr := (h.mi.row (.mem p) _ (RwOf_mem hp)).1.tail rfl hm hl
  have M := h.mi.sub (t := .mem p) (RwOf_mem hp) hr (fun k hk => by
    rw [show (memRow V s p).v = V (.mem p) from rfl, hm]
    exact hk)
  exact ⟨_, HV.memPut (s := s) (l := (s.mem p).tail) (o := s.off p + 1) (held := s.held) (x := .slice (some ⟨g2, s.off p + 1, none⟩) ((s.mem p).length - 1) (cap2 - 1)) h.fx hp hv M (updT_other _ _ (by simp)) (by rw [updT_same]; simp [rowI, memRow, List.map_tail]) (by rw [updT_other _ _ (by simp)]; rfl) (fun t _ h2 _ => updT_other _ _ h2)⟩
/-- s.parts = append(s.parts, part{}). -/
theorem HV.pushPrt (h : HV E own V s w) {g cap : Nat} (hm0 : s.mem s.tj.np = []) (hl0 : s.loo s.tj.np = 0) (hg : w.grownBy w' (V .prt).ownBlock) (ho : w'.ownsRow E.B 41 2 (.slice (some ⟨g, 0, none⟩) (s.tj.np + 1) cap) (s.tj.np + 1) (prtX V s.loo s.tj.np ++ [.slice none 0 0, .int .i64 0])) (hat : (V .prt).ownBlock = some g ∨ w.heap.size ≤ g) :
    ∃ own' V', HV E own' V' { s with tj := { s.tj with np := s.tj.np + 1 } } (w'.setCell ⟨E.bs, 5, none⟩ (.slice (some ⟨g, 0, none⟩) (s.tj.np + 1) cap)) := by
  obtain ⟨own1, M1⟩ := h.mi.app (t := .prt) rfl hg ho hat
  obtain ⟨own2, M2⟩ := M1.new (.mem s.tj.np) (r := { rowI (.slice none 0 0) [] with off := s.off s.tj.np }) (World.grownBy.refl _ _) ⟨rfl, .inl ⟨rfl, rfl⟩⟩ (fun k hk => by cases hk)
  refine ⟨own2, updV (updV V .prt (.slice (some ⟨g, 0, none⟩) (s.tj.np + 1) cap)) (.mem s.tj.np) (.slice none 0 0), fx_upd (fx_upd h.fx rfl _) rfl _, (M2.setC 5 _).congr (fun t r hr => ?_) rfl⟩
  cases t with
  | prt =>
    rw [updT_other _ _ (by simp), updT_same, ← hr]
    show some _ = some (RowSpec.mk _ _ (updV (updV V _ _) _ _ .prt) _ (prtX _ s.loo (s.tj.np + 1)) _)
    have ec : prtX (updV (updV V .prt (.slice (some ⟨g, 0, none⟩) (s.tj.np + 1) cap)) (.mem s.tj.np) (.slice none 0 0)) s.loo s.tj.np = prtX V s.loo s.tj.np := prtX_congr (fun q hq => by rw [updV_other (t := .mem s.tj.np) _ _ (by simp; omega), updV_other _ _ (by simp)]) (fun _ _ => rfl)
    rw [prtX_succ, ec, updV_same, updV_other _ _ (by simp), updV_same, hl0]
  | mem q =>
    have hr' : (if q < s.tj.np + 1 then some { rowI (updV (updV V .prt (.slice (some ⟨g, 0, none⟩) (s.tj.np + 1) cap)) (.mem s.tj.np) (.slice none 0 0) (.mem q)) (s.mem q) with off := s.off q } else none) = some r := hr
    by_cases e : q = s.tj.np
    · subst e
      rw [updT_same, ← hr', if_pos (by omega), updV_same, hm0]
    · rw [updT_other _ _ (by simp [e]), updT_other _ _ (by simp), ← hr', updV_other _ _ (by simp [e]), updV_other _ _ (by simp)]
      show (if q < s.tj.np then some _ else none) = _
      by_cases hq : q < s.tj.np
      · rw [if_pos hq, if_pos (by omega)]
      · rw [if_neg hq, if_neg (by omega)]
  | _ => exact hr
end
end Go.Proofs.Ybulkcyk
