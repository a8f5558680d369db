/-
  What the walk of (*search).walk (function 13) stands on.
-/
import Derived.Test.YbulkcykState3
import Derived.Test.YbulkcykUnb
import Derived.Test.YbulkcykCircPre
import Derived.Test.YbulkcykTarj
import Derived.Deep.CutBlock
namespace Go.Proofs.Ybulkcyk
open Go.RowKit

structure WPre (E : En) (M : Nat → Prop) (id np0 : Nat) (p0 : Nat → Int) (K : Nat) (f v : Nat) (s : Hs) : Prop where
  ti : TI E.A M id np0 p0 E.n K s.tj
  fu : WFuel M f s.tj
  pv : s.tj.pof v = (id : Int)
  iv : s.tj.idx v = 0
  wi : s.within = (id : Int)
  fr : ∀ p, np0 ≤ p → s.mem p = [] ∧ s.loo p = 0
structure WE (E : En) (M : Nat → Prop) (id np0 : Nat) (K : Nat) : Prop where
  hid : id < np0
  Mn : ∀ u, M u → u < E.n
  k : K ≤ 1000
/-- Behind k rounds of walk's loop. -/
def Wk (A : Nat → List Nat) (id : Int) (f v : Nat) (t : Tj) (k : Nat) : Tj := walkL A id f v t ((A v).take k)
theorem take_succ' {l : List Nat} {k : Nat} (h : k < l.length) : l.take (k + 1) = l.take k ++ [l.getD k 0] := by
  rw [List.take_add_one, List.getElem?_eq_getElem h, List.getD_eq_getElem?_getD, List.getElem?_eq_getElem h]; rfl
theorem Wk_succ (A : Nat → List Nat) (id : Int) (f v : Nat) (t : Tj) (k : Nat) (h : k < (A v).length) : Wk A id f v t (k + 1) = walkS A id f v (Wk A id f v t k) ((A v).getD k 0) := by
  unfold Wk walkL
  rw [take_succ' h, List.foldl_append]; rfl
theorem Wk_all (A : Nat → List Nat) (id : Int) (f v : Nat) (t : Tj) : Wk A id f v t (A v).length = walkL A id f v t (A v) := by unfold Wk; rw [List.take_length]
theorem wk_facts {E : En} {M : Nat → Prop} {id np0 : Nat} {p0 : Nat → Int} {K f v : Nat} {s : Hs} (W : WE E M id np0 K) (P : WPre E M id np0 p0 K (f + 1) v s) : ∀ k, k ≤ (E.A v).length → WL E.A M id np0 p0 E.n K v s.tj ((E.A v).take k) (Wk E.A id f v s.tj k) := by
  have hvM := P.ti.sub v P.pv
  intro k
  induction k with
  | zero => intro _; exact wl_start (W.Mn v hvM) P.ti P.pv P.iv
  | succ k ih =>
    intro hk
    have L := ih (by omega)
    rw [Wk_succ _ _ _ _ _ _ (by omega), take_succ' (by omega)]
    refine wl_step L P.iv hvM (by rw [List.getD_eq_getElem?_getD, List.getElem?_eq_getElem (by omega)]; exact List.getElem_mem _) fun h1 h2 => ?_
    exact walk_spec W.Mn (by have := W.hid; omega) (by omega) f _ _ L.ti (wfuel_rec P.fu hvM P.iv (fun u hu => by rw [(L.old u hu).1]; exact hu) (by rw [L.iv]; omega)) h1 h2
theorem cV_le (n : Nat) (t : Tj) : cV n t ≤ n := by
  have := List.length_filter_le (fun u => decide (t.idx u ≠ 0)) (List.range n)
  rw [List.length_range] at this
  exact this
theorem TI.rch7 {A : Nat → List Nat} {M : Nat → Prop} {id : Int} {np0 : Nat} {p0 : Nat → Int} {n K : Nat} {t : Tj} (T : TI A M id np0 p0 n K t) : t.rch ≤ n := Nat.le_trans T.rb (cV_le n t)
theorem TI.stkn {A : Nat → List Nat} {M : Nat → Prop} {id : Int} {np0 : Nat} {p0 : Nat → Int} {n K : Nat} {t : Tj} (T : TI A M id np0 p0 n K t) (hM : ∀ u, M u → u < n) : t.stk.length ≤ n ∧ ∀ u ∈ t.stk, u < n :=
  ⟨nodup_len (T.ord.imp fun h e => by rw [e] at h; omega) (fun u hu => hM u (T.sub u ((T.stk u).1 hu).1)), fun u hu => hM u (T.sub u ((T.stk u).1 hu).1)⟩
theorem min_cast (a b : Nat) : (.int .i64 (min (a : Int) (b : Int)) : Value) = iv (min a b) := by
  have : ((min a b : Nat) : Int) = min (a : Int) (b : Int) := by omega
  rw [← this]
theorem HV.setLowMin {E : En} {own : Nat → Tag} {V : Tag → Value} {s : Hs} {w : World} (h : HV E own V s w) {bb : Nat} (hb : V .low = .slice (some ⟨bb, 0, none⟩) E.n E.n) (v a b : Nat) : HV E own V { s with tj := { s.tj with low := upd s.tj.low v (min a b) } } (w.setCell ⟨bb, v, none⟩ (.int .i64 (min (a : Int) (b : Int)))).drew := by
  rw [min_cast]
  exact (h.setLow hb v (min a b)).drewN 1
end Go.Proofs.Ybulkcyk
