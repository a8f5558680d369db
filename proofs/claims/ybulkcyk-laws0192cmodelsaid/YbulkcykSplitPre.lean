/-
  What the walk of split (function 10) stands on.
-/
import Derived.Test.YbulkcykParts
import Derived.Test.YbulkcykWalkPre
import Derived.Test.YbulkcykLoos
namespace Go.Proofs.Ybulkcyk
open Go.RowKit

def ssOf (s : Hs) : Ss := { tj := s.tj, mem := s.mem, loo := s.loo, jn := s.jn, out := s.out }
def hsOf (s : Hs) (x : Ss) : Hs := { s with tj := x.tj, mem := x.mem, loo := x.loo, jn := x.jn, out := x.out }
def Tk (A : Nat → List Nat) (n id : Nat) (s : Hs) (k : Nat) : Tj := ((s.mem id).take k).foldl (spl1S A n id) { s.tj with rch := 0 }
def Tz (A : Nat → List Nat) (n id : Nat) (s : Hs) : Tj := splT A n id (ssOf s)
def Rr (A : Nat → List Nat) (n id : Nat) (s : Hs) (k : Nat) : Tj × (Nat → List Nat) := ((s.mem id).take k).foldl spl2S (Tz A n id s, upd s.mem id [])
def Rz (A : Nat → List Nat) (n id : Nat) (s : Hs) : Tj × (Nat → List Nat) := splR A n id (ssOf s)
theorem Tk_zero (A : Nat → List Nat) (n id : Nat) (s : Hs) : Tk A n id s 0 = { s.tj with rch := 0 } := rfl
theorem Tk_succ (A : Nat → List Nat) (n id : Nat) (s : Hs) (k : Nat) (h : k < (s.mem id).length) : Tk A n id s (k + 1) = spl1S A n id (Tk A n id s k) ((s.mem id).getD k 0) := by
  unfold Tk
  rw [take_succ' h, List.foldl_append]; rfl
theorem Tk_all (A : Nat → List Nat) (n id : Nat) (s : Hs) : Tk A n id s (s.mem id).length = Tz A n id s := by
  unfold Tk Tz splT; rw [List.take_length]; rfl
theorem Rr_zero (A : Nat → List Nat) (n id : Nat) (s : Hs) : Rr A n id s 0 = (Tz A n id s, upd s.mem id []) := rfl
theorem Rr_succ (A : Nat → List Nat) (n id : Nat) (s : Hs) (k : Nat) (h : k < (s.mem id).length) : Rr A n id s (k + 1) = spl2S (Rr A n id s k) ((s.mem id).getD k 0) := by
  unfold Rr
  rw [take_succ' h, List.foldl_append]; rfl
theorem Rr_all (A : Nat → List Nat) (n id : Nat) (s : Hs) : Rr A n id s (s.mem id).length = Rz A n id s := by
  unfold Rr Rz splR; rw [List.take_length]; rfl
theorem split_eq (A R : Nat → List Nat) (n id : Nat) (s : Hs) : splitP A R n id (ssOf s) = { ssOf s with tj := (Rz A n id s).1, mem := (Rz A n id s).2, loo := loosL A R (Rz A n id s).1.pof (Rz A n id s).2 s.tj.np s.loo ((Rz A n id s).1.np - s.tj.np) } := rfl
/-- What split is called with. -/
structure SPre (E : En) (st id : Nat) (s : Hs) : Prop where
  pi : PI E.A E.n st (id : Int) (ssOf s)
  hid : id < s.tj.np
  held : s.held = none
  off : ∀ p, s.tj.np ≤ p → s.off p = 0
  np : s.tj.np + E.n ≤ 1000
  n7 : E.n ≤ 7
section
variable {E : En} {st id : Nat} {s : Hs}
theorem SPre.mem (P : SPre E st id s) : ∀ u, u ∈ s.mem id → s.tj.pof u = (id : Int) ∧ u < E.n := fun u hu => by
  have h : s.mem id = (List.range E.n).filter (fun u => decide (s.tj.pof u = (id : Int))) := P.pi.mem id P.hid
  rw [h, List.mem_filter, List.mem_range, decide_eq_true_eq] at hu
  exact ⟨hu.2, hu.1⟩
theorem SPre.len (P : SPre E st id s) : (s.mem id).length ≤ E.n := by
  have h : s.mem id = (List.range E.n).filter (fun u => decide (s.tj.pof u = (id : Int))) := P.pi.mem id P.hid
  have := List.length_filter_le (fun u => decide (s.tj.pof u = (id : Int))) (List.range E.n)
  rw [List.length_range] at this
  rw [h]; exact this
theorem SPre.Mn (P : SPre E st id s) : ∀ u, s.tj.pof u = (id : Int) → u < E.n := fun u hu => by
  rcases Nat.lt_or_ge u E.n with q | q
  · exact q
  · have : s.tj.pof u = -1 := P.pi.pn u q
    omega
theorem SPre.s1 (P : SPre E st id s) (k : Nat) : S1 E.A (fun u => s.tj.pof u = (id : Int)) id s.tj.np s.tj.pof E.n (s.tj.np + E.n) ((s.mem id).take k) (Tk E.A E.n id s k) := by
  have h := s1_loop (A := E.A) (n := E.n) (id := (id : Int)) (np0 := s.tj.np) (p0 := s.tj.pof) (K := s.tj.np + E.n) (M := fun u => s.tj.pof u = (id : Int)) (by have := P.hid; omega) (by omega) P.Mn ((s.mem id).take k) [] { s.tj with rch := 0 } (fun v hv => (P.mem v (List.mem_of_mem_take hv)).1) ⟨ti_start P.pi, P.pi.rest.stk, fun v hv => absurd hv (by simp)⟩
  rw [List.nil_append] at h
  exact h
theorem SPre.wpre (P : SPre E st id s) (k x : Nat) (hx : x ∈ s.mem id) (h0 : (Tk E.A E.n id s k).idx x = 0) (s2 : Hs) (h1 : s2.tj = Tk E.A E.n id s k) (h2 : s2.within = (id : Int)) (h3 : s2.mem = upd s.mem id []) (h4 : s2.loo = s.loo) : WPre E (fun u => s.tj.pof u = (id : Int)) id s.tj.np s.tj.pof (s.tj.np + E.n) E.n x s2 := by
  have S := P.s1 k
  obtain ⟨_, q1, q2⟩ := s1_step (A := E.A) (n := E.n) (by have := P.hid; omega) (by omega) P.Mn S (P.mem x hx).1
  refine ⟨by rw [h1]; exact S.ti, by rw [h1]; exact q2, by rw [h1]; exact q1 h0, by rw [h1]; exact h0, h2, fun p hp => ?_⟩
  have := P.hid
  rw [h3, h4, upd_other _ _ (by omega)]
  exact P.pi.fr p hp
theorem SPre.we (P : SPre E st id s) : WE E (fun u => s.tj.pof u = (id : Int)) id s.tj.np (s.tj.np + E.n) := ⟨P.hid, P.Mn, P.np⟩
theorem SPre.rr (P : SPre E st id s) (k : Nat) : (Rr E.A E.n id s k).1.pof = (Tz E.A E.n id s).pof ∧ (Rr E.A E.n id s k).1.np = (Tz E.A E.n id s).np ∧ s.tj.np ≤ (Tz E.A E.n id s).np ∧ (Tz E.A E.n id s).np ≤ 1000 ∧ (∀ x ∈ s.mem id, (Tz E.A E.n id s).pof x = -1 ∨ ((s.tj.np : Int) ≤ (Tz E.A E.n id s).pof x ∧ (Tz E.A E.n id s).pof x < (Tz E.A E.n id s).np)) ∧ (∀ p, s.tj.np ≤ p → ((Rr E.A E.n id s k).2 p).length ≤ 7 ∧ ∀ u ∈ (Rr E.A E.n id s k).2 p, u < E.n) := by
  obtain ⟨r1, r2⟩ := spl2_fold ((s.mem id).take k) (Tz E.A E.n id s) (upd s.mem id [])
  have S := P.s1 (s.mem id).length
  rw [Tk_all, List.take_length] at S
  refine ⟨by show (((s.mem id).take k).foldl spl2S _).1.pof = _; rw [r1], by show (((s.mem id).take k).foldl spl2S _).1.np = _; rw [r1], S.ti.npl, ?_, fun x hx => ?_, fun p hp => ?_⟩
  · have h1 := S.ti.nb
    have h2 := P.np
    omega
  · refine S.ti.rng x (P.mem x hx).1 fun e => ?_
    have := (S.ti.stk x).2 ⟨e, S.vis x hx⟩
    rw [S.nil] at this; cases this
  · have e : (Rr E.A E.n id s k).2 p = upd s.mem id [] p ++ ((s.mem id).take k).filter (fun v => decide ((Tz E.A E.n id s).pof v = (p : Int))) := r2 p
    have hid := P.hid
    have hfr : s.mem p = [] := (P.pi.fr p hp).1
    rw [upd_other _ _ (by omega), hfr, List.nil_append] at e
    rw [e]
    refine ⟨?_, fun u hu => (P.mem u (List.mem_of_mem_take (List.mem_filter.1 hu).1)).2⟩
    have h1 := List.length_filter_le (fun v => decide ((Tz E.A E.n id s).pof v = (p : Int))) ((s.mem id).take k)
    have h2 := List.length_take_le k (s.mem id)
    have h3 : ((s.mem id).take k).length ≤ (s.mem id).length := by rw [List.length_take]; omega
    have h4 := P.len
    have h5 := P.n7
    omega
end
/-- The row that is held, as a list. -/
theorem HV.heldSl {E : En} {own : Nat → Tag} {V : Tag → Value} {s : Hs} {w : World} (h : HV E own V s w) {v : Value} {p : Option Addr} {l : List Nat} {c o : Nat} (hr : s.held = some { rowI v l with off := o }) (hv : v = .slice p l.length c) : SlR w p l := by
  subst hv
  have hr' : RwOf E.n V s .held = some { rowI (.slice p l.length c) l with off := o } := hr
  have hR := (h.mi.row .held _ hr').1
  intro h0
  rcases hR.2 with ⟨_, e2⟩ | ⟨g, cap, cur, h1, _⟩
  · have e2' : l.length = 0 := e2
    omega
  · have h1' : (.slice p l.length c : Value) = .slice (some ⟨g, o, none⟩) l.length cap := h1
    cases h1'
    refine ⟨g, o, rfl, fun i hi => ?_⟩
    exact hR.cell (i := i) (u := iv (l.getD i 0)) rfl (by
      show (l.map iv)[i]? = _
      rw [List.getElem?_map, List.getD_eq_getElem?_getD, List.getElem?_eq_getElem hi]
      rfl)
/-- The members' slice may be read, and nil be stored in its place. -/
def SplitIn (E : En) (s : Hs) (id : Nat) (w : World) : Prop := ∃ (gp kp : Nat) (p4 : Option Addr) (k4 : Nat) (own : Nat → Tag) (V : Tag → Value) (r0 : Option RowSpec), w.cell? ⟨E.bs, 5, none⟩ = some (.slice (some ⟨gp, 0, none⟩) s.tj.np kp) ∧ w.cell? ⟨gp, id * 2, none⟩ = some (.slice p4 (s.mem id).length k4) ∧ w.frozen? ⟨gp, id * 2, none⟩ = false ∧ HV E own V { s with mem := upd s.mem id [], off := upd s.off id 0, held := r0 } (w.setCell ⟨gp, id * 2, none⟩ (.slice none 0 0)) ∧ ∀ own V s' w', HV E own V s' w' → s'.held = r0 → SlR w' p4 (s.mem id)
theorem HI.splitIn {E : En} {s : Hs} {id : Nat} {w : World} (h : HI E s w) (hid : id < s.tj.np) (hh : s.held = none) : SplitIn E s id w := by
  obtain ⟨own, V, H⟩ := h
  obtain ⟨p4, k4, e4, _, _⟩ := H.memForm hid
  obtain ⟨gp, kp, ep, hnk, hkm, hcp, hfp⟩ := H.prtForm (by omega)
  obtain ⟨own1, V1, hV1⟩ := H.holdMem id hid hh ep
  refine ⟨gp, kp, p4, k4, own1, V1, some (memRow V s id), by rw [← ep]; exact H.mi.cell rfl, by rw [(hcp id hid).1, e4], hfp _, hV1, fun own' V' s' w' h' e' => ?_⟩
  refine h'.heldSl (v := .slice p4 (s.mem id).length k4) (o := s.off id) ?_ rfl
  rw [e']
  unfold memRow
  rw [e4]
theorem set_set (w : World) (b o : Nat) (x y : Value) : (w.setCell ⟨b, o, none⟩ x).setCell ⟨b, o, none⟩ y = w.setCell ⟨b, o, none⟩ y := by
  unfold World.setCell
  congr 1
  apply Array.ext_getElem?
  intro k
  simp only [Array.getElem?_modify]
  by_cases hk : b = k
  · simp only [hk, if_true]
    cases w.heap[k]? with
    | none => rfl
    | some v => cases v <;> simp
  · simp [hk]
theorem loosL_succ (A R : Nat → List Nat) (pof : Nat → Int) (mem : Nat → List Nat) (first : Nat) (loo : Nat → Int) (k : Nat) : loosL A R pof mem first loo (k + 1) = upd (loosL A R pof mem first loo k) (first + k) (loosestP A R pof (first + k) (mem (first + k))) := rfl
end Go.Proofs.Ybulkcyk
