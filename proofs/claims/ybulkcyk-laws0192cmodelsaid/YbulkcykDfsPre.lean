/-
  The plain model's struct as it lies in memory (type 33), and what its walk (function 7) stands on.
-/
import Derived.Test.YbulkcykCirc
import Derived.Test.YbulkcykRunPre2
namespace Go.Proofs.Ybulkcyk
open Go.RowKit

structure Dn where
  w0 : World
  w1 : World
  bs : Nat
  ob : Nat
  B : Nat
  n : Nat
  adjv : Value
  lim : Int
  A : Nat → List Nat
structure Ds where
  path : List Nat
  onp : Nat → Bool
  out : Out
  start : Int
def csM (D : Dn) (V : Tag → Value) (s : Ds) : List Value :=
  [D.adjv, .int .i64 s.start, V .path, .slice (some ⟨D.ob, 0, none⟩) D.n D.n, V .cycO, .bool s.out.more, .int .i64 D.lim, .int .i64 s.out.num]
/-- The struct lies as a row of one element; what stands for the struct in 'MI' is the row of flags, which was made first. -/
def RwM (D : Dn) (V : Tag → Value) (s : Ds) : Tag → Option RowSpec
  | .path => some (rowI (V .path) s.path)
  | .held => some ⟨33, 8, .slice (some ⟨D.bs, 0, none⟩) 1 1, 1, csM D V s, 0⟩
  | .cycO => some (rowF 26 (V .cycO) s.out.cyc.length fun k => V (.cyc k))
  | .cyc k => if k < s.out.cyc.length then some (rowI (V (.cyc k)) (s.out.cyc.getD k [])) else none
  | _ => none
def onA (D : Dn) (s : Ds) : Array Value := ((List.range D.n).map fun v => Value.bool (s.onp v)).toArray
structure DV (D : Dn) (own : Nat → Tag) (V : Tag → Value) (s : Ds) (w : World) : Prop where
  mi : MI D.w0 D.w1 D.ob D.B 4 own (onA D s) (RwM D V s) w
def DI (D : Dn) (s : Ds) (w : World) : Prop := ∃ own V, DV D own V s w
section
variable {D : Dn} {own : Nat → Tag} {V : Tag → Value} {s : Ds} {w w' : World}
theorem DV.grow (h : DV D own V s w) (hg : w.grownBy w' none) : DV D own V s w' := ⟨h.mi.grow hg⟩
theorem DV.drewN (h : DV D own V s w) (n : Nat) : DV D own V s (w.drewN n) := ⟨h.mi.drewN n⟩
theorem DV.cell (h : DV D own V s w) {k : Nat} {x : Value} (hx : (csM D V s)[k]? = some x) : w.cell? ⟨D.bs, k, none⟩ = some x := by
  have := (h.mi.row .held _ rfl).1.cell (i := k) (u := x) rfl hx
  simpa using this
theorem DV.frozen (h : DV D own V s w) (k : Nat) : w.frozen? ⟨D.bs, k, none⟩ = false := (h.mi.row .held _ rfl).1.frozen (o := 0) rfl k
theorem DV.far (h : DV D own V s w) {t : Tag} {r : RowSpec} (ht : t ≠ .held) (hr : RwM D V s t = some r) (hg : w.grownBy w' r.v.ownBlock) {k : Nat} {x : Value} (hx : (csM D V s)[k]? = some x) : w'.cell? ⟨D.bs, k, none⟩ = some x ∧ w'.frozen? ⟨D.bs, k, none⟩ = false := by
  have hR := h.mi.rowFar (u := .held) hr rfl ht.symm hg
  refine ⟨?_, hR.frozen (o := 0) rfl k⟩
  have := hR.cell (i := k) (u := x) rfl hx
  simpa using this
/-- A store into the struct. -/
theorem MI.setS {own : Nat → Tag} {Rw : Tag → Option RowSpec} {cs : Array Value} {xs : List Value} (M : MI D.w0 D.w1 D.ob D.B 4 own cs Rw w) (hr : Rw .held = some ⟨33, 8, .slice (some ⟨D.bs, 0, none⟩) 1 1, 1, xs, 0⟩) (k : Nat) (x : Value) : MI D.w0 D.w1 D.ob D.B 4 own cs (updT Rw .held ⟨33, 8, .slice (some ⟨D.bs, 0, none⟩) 1 1, 1, xs.set k x, 0⟩) (w.setCell ⟨D.bs, k, none⟩ x) :=
  M.setR (t := .held) hr rfl rfl k x
theorem DV.setNum (h : DV D own V s w) (x : Int) : DV D own V { s with out := { s.out with num := x } } (w.setCell ⟨D.bs, 7, none⟩ (.int .i64 x)) := ⟨(MI.setS h.mi rfl 7 _).congr (fun t r hr => by cases t <;> exact hr) rfl⟩
theorem DV.setMore (h : DV D own V s w) (x : Bool) : DV D own V { s with out := { s.out with more := x } } (w.setCell ⟨D.bs, 5, none⟩ (.bool x)) := ⟨(MI.setS h.mi rfl 5 _).congr (fun t r hr => by cases t <;> exact hr) rfl⟩
theorem DV.setStart (h : DV D own V s w) (x : Int) : DV D own V { s with start := x } (w.setCell ⟨D.bs, 1, none⟩ (.int .i64 x)) := ⟨(MI.setS h.mi rfl 1 _).congr (fun t r hr => by cases t <;> exact hr) rfl⟩
theorem DV.cOn (h : DV D own V s w) {v : Nat} (hv : v < D.n) : w.cell? ⟨D.ob, v, none⟩ = some (.bool (s.onp v)) ∧ w.frozen? ⟨D.ob, v, none⟩ = false :=
  ⟨h.mi.cell (by simp [onA, hv]), h.mi.frozen v⟩
theorem DV.setOn (h : DV D own V s w) (v : Nat) (x : Bool) : DV D own V { s with onp := upd s.onp v x } (w.setCell ⟨D.ob, v, none⟩ (.bool x)) :=
  ⟨(h.mi.setC v _).congr (fun t r hr => by cases t <;> exact hr) (by
    show ((List.range D.n).map fun u => Value.bool (upd s.onp v x u)).toArray = _
    rw [upd_comp s.onp v x Value.bool, ← map_set]
    simp [onA])⟩
theorem DV.pushPath (h : DV D own V s w) (v : Nat) {g cap : Nat} (hg : w.grownBy w' (V .path).ownBlock) (ho : w'.ownsRow D.B 3 1 (.slice (some ⟨g, 0, none⟩) (s.path.length + 1) cap) (s.path.length + 1) (s.path.map iv ++ [iv v])) (hat : (V .path).ownBlock = some g ∨ w.heap.size ≤ g) :
    ∃ own', DV D own' (updV V .path (.slice (some ⟨g, 0, none⟩) (s.path.length + 1) cap)) { s with path := s.path ++ [v] } (w'.setCell ⟨D.bs, 2, none⟩ (.slice (some ⟨g, 0, none⟩) (s.path.length + 1) cap)) := by
  obtain ⟨own', M⟩ := h.mi.app (t := .path) rfl hg ho hat
  refine ⟨own', ⟨(MI.setS M (by rw [updT_other _ _ (by simp)]; rfl) 2 _).congr (fun t r hr => ?_) rfl⟩⟩
  cases t <;> try exact hr
  rw [updT_other _ _ (by simp), updT_same, ← hr]
  show some _ = some (rowI _ _)
  unfold rowI
  simp [updV_same]
theorem DV.popPath (h : DV D own V s w) {g cap : Nat} (hv : V .path = .slice (some ⟨g, 0, none⟩) s.path.length cap) (k : Nat) (hk : k ≤ s.path.length) :
    DV D own (updV V .path (.slice (some ⟨g, 0, none⟩) k cap)) { s with path := s.path.take k } (w.setCell ⟨D.bs, 2, none⟩ (.slice (some ⟨g, 0, none⟩) k cap)) := by
  have hr := (h.mi.row .path _ rfl).1.take (k := k) hv hk
  refine ⟨(MI.setS (h.mi.sub (t := .path) rfl hr (fun q hq => by rw [show (rowI (V .path) s.path).v = V .path from rfl, hv]; exact hq)) (by rw [updT_other _ _ (by simp)]; rfl) 2 _).congr (fun t r hr => ?_) rfl⟩
  cases t <;> try exact hr
  rw [updT_other _ _ (by simp), updT_same, ← hr]
  show some _ = some (rowI _ _)
  unfold rowI
  simp [updV_same, List.map_take, hk]
theorem DV.rowNZ (h : DV D own V s w) (hl : 0 < s.path.length) : ∃ g cap, V .path = .slice (some ⟨g, 0, none⟩) s.path.length cap ∧ s.path.length ≤ cap ∧ cap ≤ maxLen ∧ ∀ i, i < s.path.length → w.cell? ⟨g, i, none⟩ = some (iv (s.path.getD i 0)) := by
  have hr := (h.mi.row .path _ rfl).1
  rcases hr.2 with ⟨_, e⟩ | ⟨g, cap, cur, h1, _, _, h4, h5, _⟩
  · have e' : s.path.length = 0 := e; omega
  · refine ⟨g, cap, h1, h4, h5, fun i hi => ?_⟩
    have := hr.cell (i := i) (u := iv (s.path.getD i 0)) h1 (by
      show (s.path.map iv)[i]? = _
      rw [List.getElem?_map, List.getD_eq_getElem?_getD, List.getElem?_eq_getElem hi]
      rfl)
    simpa [rowI] using this
theorem DV.formC (h : DV D own V s w) : ∃ p c, V .cycO = .slice p s.out.cyc.length c := by
  rcases (h.mi.row .cycO _ rfl).1.2 with ⟨e1, e2⟩ | ⟨g, cap, cur, h1, _⟩
  · have e2' : s.out.cyc.length = 0 := e2
    rw [e2']; exact ⟨_, _, e1⟩
  · exact ⟨_, _, h1⟩
theorem DV.pushCyc {w2 : World} (h : DV D own V s w) {g0 cap0 g cap : Nat} (hg0 : w.grownBy w2 none) (ho0 : w2.ownsRow D.B 3 1 (.slice (some ⟨g0, 0, none⟩) s.path.length cap0) s.path.length (s.path.map iv)) (hf : w.heap.size ≤ g0)
    (hg : w2.grownBy w' (V .cycO).ownBlock) (ho : w'.ownsRow D.B 26 1 (.slice (some ⟨g, 0, none⟩) (s.out.cyc.length + 1) cap) (s.out.cyc.length + 1) ((List.range s.out.cyc.length).map (fun k => V (.cyc k)) ++ [.slice (some ⟨g0, 0, none⟩) s.path.length cap0])) (hat : (V .cycO).ownBlock = some g ∨ w2.heap.size ≤ g) :
    ∃ own' V', DV D own' V' { s with out := { s.out with cyc := s.out.cyc ++ [s.path] } } (w'.setCell ⟨D.bs, 4, none⟩ (.slice (some ⟨g, 0, none⟩) (s.out.cyc.length + 1) cap)) := by
  obtain ⟨own1, M1⟩ := h.mi.new (.cyc s.out.cyc.length) hg0 (RowP.of_owns ho0) (fun k hk => by cases hk; exact hf)
  obtain ⟨own2, M2⟩ := M1.app (t := .cycO) (r := rowF 26 (V .cycO) s.out.cyc.length fun k => V (.cyc k)) (by rw [updT_other _ _ (by simp)]; rfl) hg ho hat
  refine ⟨own2, updV (updV V (.cyc s.out.cyc.length) (.slice (some ⟨g0, 0, none⟩) s.path.length cap0)) .cycO (.slice (some ⟨g, 0, none⟩) (s.out.cyc.length + 1) cap), ⟨(MI.setS M2 (by rw [updT_other _ _ (by simp), updT_other _ _ (by simp)]; rfl) 4 _).congr (fun t r hr => ?_) rfl⟩⟩
  cases t with
  | cycO =>
    rw [updT_other _ _ (by simp), updT_same, ← hr]
    show some _ = some (rowF _ _ _ _)
    unfold rowF
    rw [updV_same]
    simp only [List.length_append, List.length_cons, List.length_nil, List.range_succ, List.map_append, List.map_cons, List.map_nil]
    rw [updV_other (t := .cycO) _ _ (by simp), updV_same]
    rw [List.map_congr_left (l := List.range s.out.cyc.length) (f := fun k => updV (updV V (.cyc s.out.cyc.length) (.slice (some ⟨g0, 0, none⟩) s.path.length cap0)) .cycO (.slice (some ⟨g, 0, none⟩) (s.out.cyc.length + 1) cap) (.cyc k)) (g := fun k => V (.cyc k)) (fun k hk => by
      have := List.mem_range.1 hk
      rw [updV_other _ _ (by simp), updV_other _ _ (by simp; omega)])]
  | cyc k =>
    rw [updT_other _ _ (by simp), updT_other _ _ (by simp)]
    have hr' : (if k < (s.out.cyc ++ [s.path]).length then some (rowI (updV (updV V (.cyc s.out.cyc.length) (.slice (some ⟨g0, 0, none⟩) s.path.length cap0)) .cycO (.slice (some ⟨g, 0, none⟩) (s.out.cyc.length + 1) cap) (.cyc k)) ((s.out.cyc ++ [s.path]).getD k [])) else none) = some r := hr
    rw [updV_other _ _ (by simp)] at hr'
    by_cases e : k = s.out.cyc.length
    · subst e
      rw [updT_same, ← hr', if_pos (by simp), updV_same]
      simp [rowI]
    · rw [updT_other _ _ (by simp [e]), ← hr', updV_other _ _ (by simp [e])]
      show (if k < s.out.cyc.length then some (rowI (V (.cyc k)) (s.out.cyc.getD k [])) else none) = _
      by_cases hk : k < s.out.cyc.length
      · rw [if_pos hk, if_pos (by simp; omega), List.getD_eq_getElem?_getD, List.getD_eq_getElem?_getD, List.getElem?_append_left hk]
      · rw [if_neg hk, if_neg (by simp; omega)]
  | path => exact hr
  | held => exact hr
  | _ => cases hr
end
structure DH (D : Dn) : Prop where
  n7 : D.n ≤ 7
  lt : ∀ v, ∀ w ∈ D.A v, w < D.n
  srt : ∀ v, (D.A v).Pairwise (· < ·)
  adj : Lists D.w1 D.ob D.B D.n D.adjv D.A
theorem Lists.atD {D : Dn} {lv : Value} {A : Nat → List Nat} (L : Lists D.w1 D.ob D.B D.n lv A) {v : Nat} (hv : v < D.n) :
    ∃ ga c p c2, lv = .slice (some ⟨ga, 0, none⟩) D.n c ∧ ∀ own V s w, DV D own V s w → w.cell? ⟨ga, v, none⟩ = some (.slice p (A v).length c2) ∧ SlR w p (A v) := by
  obtain ⟨ga, c, e, h1, h2, h3⟩ := L.ex
  obtain ⟨p, c2, h4, h5⟩ := h3 v hv
  refine ⟨ga, c, p, c2, e, fun own V s w H => ⟨(H.mi.kcell h1 h2).trans h4, fun h0 => ?_⟩⟩
  obtain ⟨g, rfl, h6, h7, h8⟩ := h5 h0
  exact ⟨g, 0, rfl, fun i hi => by rw [Nat.zero_add, H.mi.kcell (a := ⟨g, i, none⟩) h6 h7]; exact h8 i hi⟩
structure DPre (D : Dn) (st f : Nat) (path : List Nat) (v : Nat) (s : Ds) : Prop where
  pa : s.path = path
  st : s.start = (st : Int)
  onp : s.onp = fun u => (path ++ [v]).contains u
  nd : path.Nodup
  lt : ∀ u ∈ path, u < D.n
  vn : v ∉ path
  vl : v < D.n
  fu : f + path.length = D.n + 1
  nu : s.out.num ≤ 9223372036854775807
  cb : s.out.cyc.length + 7 ^ f ≤ 1000000000
def Dk (A : Nat → List Nat) (lim : Int) (st f : Nat) (path : List Nat) (v : Nat) (o : Out) (k : Nat) : Out := ((A v).take k).foldl (dfsS A lim st f path v) o
theorem Dk_succ (A : Nat → List Nat) (lim : Int) (st f : Nat) (path : List Nat) (v : Nat) (o : Out) (k : Nat) (h : k < (A v).length) : Dk A lim st f path v o (k + 1) = dfsS A lim st f path v (Dk A lim st f path v o k) ((A v).getD k 0) := by
  unfold Dk
  rw [take_succ h, List.foldl_append]; rfl
theorem Dk_all (A : Nat → List Nat) (lim : Int) (st f : Nat) (path : List Nat) (v : Nat) (o : Out) : Dk A lim st f path v o (A v).length = dfsP A lim st (f + 1) path v o := by
  unfold Dk
  rw [List.take_length, dfsP_succ]
theorem Dk_more {A : Nat → List Nat} {lim : Int} {st f : Nat} {path : List Nat} {v : Nat} {o : Out} {k : Nat} (h : (Dk A lim st f path v o k).more = true) : dfsP A lim st (f + 1) path v o = Dk A lim st f path v o k := by
  have e : dfsP A lim st (f + 1) path v o = ((A v).drop k).foldl (dfsS A lim st f path v) (Dk A lim st f path v o k) := by
    rw [dfsP_succ]
    unfold Dk
    rw [← List.foldl_append, List.take_append_drop]
  rw [e]
  exact foldl_fix _ _ _ fun w _ => by unfold dfsS; rw [if_pos h]
theorem dk_facts {D : Dn} (H : DH D) {st f : Nat} {path : List Nat} {v : Nat} {s : Ds} (P : DPre D st (f + 1) path v s) (k : Nat) (hk : k ≤ (D.A v).length) : (Dk D.A D.lim st f path v s.out k).num ≤ 9223372036854775807 ∧ (Dk D.A D.lim st f path v s.out k).cyc.length ≤ s.out.cyc.length + k * 7 ^ f := by
  refine ⟨dfsL_num _ _ _ P.nu, ?_⟩
  have h7 : ∀ v, ∀ w ∈ D.A v, w < 7 := fun v w hw => by have h1 := H.lt v w hw; have h2 := H.n7; omega
  have := dfsL_len (A := D.A) (lim := D.lim) (st := st) (n := 7) (f := f) (path := path) (v := v) (by omega) (fun w o => dfsP_len (by omega) H.srt h7 f (path ++ [v]) w o) ((D.A v).take k) s.out
  rw [List.length_take, Nat.min_eq_left hk] at this
  exact this
theorem DPre.next {D : Dn} (H : DH D) {st f : Nat} {path : List Nat} {v x : Nat} {s : Ds} (P : DPre D st (f + 1) path v s) {k : Nat} (hk : k < (D.A v).length) {o : Out} (ho : o = Dk D.A D.lim st f path v s.out k) (hx : x < D.n) (hn : (path ++ [v]).contains x = false) : DPre D st f (path ++ [v]) x { s with path := path ++ [v], onp := upd (fun u => (path ++ [v]).contains u) x true, out := o } := by
  obtain ⟨F1, F2⟩ := dk_facts H P k (Nat.le_of_lt hk)
  have hfu := P.fu
  have hxn : x ∉ path ++ [v] := fun h => by rw [List.contains_eq_mem, decide_eq_true h] at hn; cases hn
  refine ⟨rfl, P.st, ?_, List.nodup_append.2 ⟨P.nd, by simp, fun a ha b hb' => by obtain rfl := List.mem_singleton.1 hb'; exact fun e => P.vn (e ▸ ha)⟩, fun u hu => ?_, hxn, hx, by simp; omega, by rw [ho]; exact F1, ?_⟩
  · funext u
    by_cases e : u = x
    · subst e; simp [upd]
    · simp [upd, e]
  · rcases List.mem_append.1 hu with q | q
    · exact P.lt u q
    · obtain rfl := List.mem_singleton.1 q; exact P.vl
  · show o.cyc.length + 7 ^ f ≤ 1000000000
    rw [ho]
    have h2 := P.cb
    have h8 := sorted_len (H.srt v) (H.lt v)
    have h9 := H.n7
    have h3 : (k + 1) * 7 ^ f ≤ 7 * 7 ^ f := Nat.mul_le_mul_right _ (by omega)
    have h4 : 7 ^ (f + 1) = 7 * 7 ^ f := by rw [Nat.pow_succ, Nat.mul_comm]
    rw [Nat.add_mul] at h3
    omega
theorem onp_back (l : List Nat) (x : Nat) (h : l.contains x = false) : upd (upd (fun u => l.contains u) x true) x false = fun u => l.contains u := by
  funext u
  by_cases e : u = x
  · subst e; simp only [upd, if_true]; exact h.symm
  · simp [upd, e]
end Go.Proofs.Ybulkcyk
