/-
  A search's state as it lies in memory; what each kind of store does to it.
-/
import Derived.Test.YbulkcykHeap
namespace Go.Proofs.Ybulkcyk
open Go.RowKit

structure En where
  w0 : World
  w1 : World
  bs : Nat
  B : Nat
  n : Nat
  adjv : Value
  radjv : Value
  lim : Int
  A : Nat → List Nat
  R : Nat → List Nat
structure Hs where
  tj : Tj
  mem : Nat → List Nat
  loo : Nat → Int
  jn : Jn
  out : Out
  path : List Nat
  tos : Nat → Bool
  start : Int
  within : Int
  held : Option RowSpec
  off : Nat → Nat
abbrev iv (x : Nat) : Value := .int .i64 (x : Int)
def rowI (v : Value) (l : List Nat) : RowSpec := ⟨3, 1, v, l.length, l.map iv, 0⟩
def rowF (e : Nat) (v : Value) (n : Nat) (f : Nat → Value) : RowSpec := ⟨e, 1, v, n, (List.range n).map f, 0⟩
def prtX (V : Tag → Value) (loo : Nat → Int) (np : Nat) : List Value := (List.range np).flatMap fun p => [V (.mem p), .int .i64 (loo p)]
def RwOf (n : Nat) (V : Tag → Value) (s : Hs) : Tag → Option RowSpec
  | .pof => some (rowF 3 (V .pof) n fun v => .int .i64 (s.tj.pof v))
  | .idx => some (rowF 3 (V .idx) n fun v => iv (s.tj.idx v))
  | .low => some (rowF 3 (V .low) n fun v => iv (s.tj.low v))
  | .blk => some (rowF 4 (V .blk) n fun v => .bool (s.jn.blk v))
  | .tos => some (rowF 4 (V .tos) n fun v => .bool (s.tos v))
  | .ons => some (rowF 4 (V .ons) n fun v => .bool (s.tj.ons v))
  | .blsO => some (rowF 26 (V .blsO) n fun v => V (.bls v))
  | .prt => some ⟨41, 2, V .prt, s.tj.np, prtX V s.loo s.tj.np, 0⟩
  | .path => some (rowI (V .path) s.path)
  | .stk => some (rowI (V .stk) s.tj.stk)
  | .cycO => some (rowF 26 (V .cycO) s.out.cyc.length fun k => V (.cyc k))
  | .held => s.held
  | .bls v => if v < n then some (rowI (V (.bls v)) (s.jn.bls v)) else none
  | .mem p => if p < s.tj.np then some { rowI (V (.mem p)) (s.mem p) with off := s.off p } else none
  | .cyc k => if k < s.out.cyc.length then some (rowI (V (.cyc k)) (s.out.cyc.getD k [])) else none
def csOf (E : En) (V : Tag → Value) (s : Hs) : Array Value :=
  #[E.adjv, E.radjv, .int .i64 E.lim, .int .i64 s.out.num, V .pof, V .prt, .int .i64 s.start, .int .i64 s.within, V .blk, V .blsO, V .path, V .tos, .int .i64 s.jn.opn, V .idx, V .low, V .ons, V .stk, .int .i64 s.tj.rch, V .cycO, .bool s.out.more]
def fixed : Tag → Bool
  | .pof | .idx | .low | .blk | .tos | .ons | .blsO => true
  | _ => false
structure HV (E : En) (own : Nat → Tag) (V : Tag → Value) (s : Hs) (w : World) : Prop where
  fx : ∀ t, fixed t = true → ∃ b, V t = .slice (some ⟨b, 0, none⟩) E.n E.n
  mi : MI E.w0 E.w1 E.bs E.B 30 own (csOf E V s) (RwOf E.n V s) w
def HI (E : En) (s : Hs) (w : World) : Prop := ∃ own V, HV E own V s w
def updV (V : Tag → Value) (t : Tag) (x : Value) : Tag → Value := fun u => if u = t then x else V u
theorem updV_same (V : Tag → Value) (t : Tag) (x : Value) : updV V t x t = x := by simp [updV]
theorem updV_other (V : Tag → Value) {t u : Tag} (x : Value) (h : u ≠ t) : updV V t x u = V u := by simp [updV, h]

theorem map_set (n v : Nat) (f : Nat → Value) (x : Value) : ((List.range n).map f).set v x = (List.range n).map (upd f v x) := by
  apply List.ext_getElem?
  intro i
  rw [List.getElem?_set]
  simp only [List.getElem?_map, List.length_map, List.length_range]
  by_cases e : v = i
  · subst e
    simp only [if_true]
    by_cases h : v < n
    · rw [if_pos h, List.getElem?_range h]; simp [upd]
    · rw [if_neg h, List.getElem?_eq_none (by simpa using h)]; rfl
  · rw [if_neg e]
    by_cases h : i < n
    · rw [List.getElem?_range h]; simp [upd, Ne.symm e]
    · rw [List.getElem?_eq_none (by simpa using h)]; rfl
theorem map_range_get (n v : Nat) (f : Nat → Value) (h : v < n) : ((List.range n).map f)[v]? = some (f v) := by
  rw [List.getElem?_map, List.getElem?_range h]; rfl
theorem upd_comp {α β : Type} (f : Nat → α) (v : Nat) (x : α) (g : α → β) : (fun u => g (upd f v x u)) = upd (fun u => g (f u)) v (g x) := by
  funext u
  by_cases h : u = v <;> simp [upd, h]

section
variable {E : En} {own : Nat → Tag} {V : Tag → Value} {s : Hs} {w w' : World}
theorem HV.grow (h : HV E own V s w) (hg : w.grownBy w' none) : HV E own V s w' := ⟨h.fx, h.mi.grow hg⟩
theorem HV.alloc (h : HV E own V s w) (o : Obj) : HV E own V s (w.alloc o) := ⟨h.fx, h.mi.alloc o⟩
theorem HV.drewN (h : HV E own V s w) (n : Nat) : HV E own V s (w.drewN n) := ⟨h.fx, h.mi.drewN n⟩
/-- Scalars of the struct. -/
theorem HV.setNum (h : HV E own V s w) (x : Int) : HV E own V { s with out := { s.out with num := x } } (w.setCell ⟨E.bs, 3, none⟩ (.int .i64 x)) := ⟨h.fx, (h.mi.setC 3 _).congr (fun t r hr => by cases t <;> exact hr) rfl⟩
theorem HV.setStart (h : HV E own V s w) (x : Int) : HV E own V { s with start := x } (w.setCell ⟨E.bs, 6, none⟩ (.int .i64 x)) := ⟨h.fx, (h.mi.setC 6 _).congr (fun t r hr => by cases t <;> exact hr) rfl⟩
theorem HV.setWithin (h : HV E own V s w) (x : Int) : HV E own V { s with within := x } (w.setCell ⟨E.bs, 7, none⟩ (.int .i64 x)) := ⟨h.fx, (h.mi.setC 7 _).congr (fun t r hr => by cases t <;> exact hr) rfl⟩
theorem HV.setOpn (h : HV E own V s w) (x : Int) : HV E own V { s with jn := { s.jn with opn := x } } (w.setCell ⟨E.bs, 12, none⟩ (.int .i64 x)) := ⟨h.fx, (h.mi.setC 12 _).congr (fun t r hr => by cases t <;> exact hr) rfl⟩
theorem HV.setRch (h : HV E own V s w) (x : Nat) : HV E own V { s with tj := { s.tj with rch := x } } (w.setCell ⟨E.bs, 17, none⟩ (iv x)) := ⟨h.fx, (h.mi.setC 17 _).congr (fun t r hr => by cases t <;> exact hr) rfl⟩
theorem HV.setMore (h : HV E own V s w) (x : Bool) : HV E own V { s with out := { s.out with more := x } } (w.setCell ⟨E.bs, 19, none⟩ (.bool x)) := ⟨h.fx, (h.mi.setC 19 _).congr (fun t r hr => by cases t <;> exact hr) rfl⟩
/-- A cell of a row of fixed length. -/
theorem HV.fixCell (h : HV E own V s w) {t : Tag} {e : Nat} {f : Nat → Value} {b v : Nat} (hR : RwOf E.n V s t = some (rowF e (V t) E.n f)) (hb : V t = .slice (some ⟨b, 0, none⟩) E.n E.n) (hv : v < E.n) : w.cell? ⟨b, v, none⟩ = some (f v) := by
  have := (h.mi.row t _ hR).1.cell (i := v) (u := f v) hb (map_range_get E.n v f hv)
  simpa [rowF] using this
theorem HV.fixFrozen (h : HV E own V s w) {t : Tag} {e : Nat} {f : Nat → Value} {b : Nat} (hR : RwOf E.n V s t = some (rowF e (V t) E.n f)) (hb : V t = .slice (some ⟨b, 0, none⟩) E.n E.n) (v : Nat) : w.frozen? ⟨b, v, none⟩ = false := (h.mi.row t _ hR).1.frozen hb v
theorem HV.cPof (h : HV E own V s w) {b v : Nat} (hb : V .pof = .slice (some ⟨b, 0, none⟩) E.n E.n) (hv : v < E.n) : w.cell? ⟨b, v, none⟩ = some (.int .i64 (s.tj.pof v)) ∧ w.frozen? ⟨b, v, none⟩ = false := ⟨h.fixCell rfl hb hv, h.fixFrozen rfl hb v⟩
theorem HV.cIdx (h : HV E own V s w) {b v : Nat} (hb : V .idx = .slice (some ⟨b, 0, none⟩) E.n E.n) (hv : v < E.n) : w.cell? ⟨b, v, none⟩ = some (.int .i64 (s.tj.idx v)) ∧ w.frozen? ⟨b, v, none⟩ = false := ⟨h.fixCell rfl hb hv, h.fixFrozen rfl hb v⟩
theorem HV.cLow (h : HV E own V s w) {b v : Nat} (hb : V .low = .slice (some ⟨b, 0, none⟩) E.n E.n) (hv : v < E.n) : w.cell? ⟨b, v, none⟩ = some (.int .i64 (s.tj.low v)) ∧ w.frozen? ⟨b, v, none⟩ = false := ⟨h.fixCell rfl hb hv, h.fixFrozen rfl hb v⟩
theorem HV.cBlk (h : HV E own V s w) {b v : Nat} (hb : V .blk = .slice (some ⟨b, 0, none⟩) E.n E.n) (hv : v < E.n) : w.cell? ⟨b, v, none⟩ = some (.bool (s.jn.blk v)) ∧ w.frozen? ⟨b, v, none⟩ = false := ⟨h.fixCell rfl hb hv, h.fixFrozen rfl hb v⟩
theorem HV.cTos (h : HV E own V s w) {b v : Nat} (hb : V .tos = .slice (some ⟨b, 0, none⟩) E.n E.n) (hv : v < E.n) : w.cell? ⟨b, v, none⟩ = some (.bool (s.tos v)) ∧ w.frozen? ⟨b, v, none⟩ = false := ⟨h.fixCell rfl hb hv, h.fixFrozen rfl hb v⟩
theorem HV.cOns (h : HV E own V s w) {b v : Nat} (hb : V .ons = .slice (some ⟨b, 0, none⟩) E.n E.n) (hv : v < E.n) : w.cell? ⟨b, v, none⟩ = some (.bool (s.tj.ons v)) ∧ w.frozen? ⟨b, v, none⟩ = false := ⟨h.fixCell rfl hb hv, h.fixFrozen rfl hb v⟩
theorem HV.cBls (h : HV E own V s w) {b v : Nat} (hb : V .blsO = .slice (some ⟨b, 0, none⟩) E.n E.n) (hv : v < E.n) : w.cell? ⟨b, v, none⟩ = some (V (.bls v)) ∧ w.frozen? ⟨b, v, none⟩ = false := ⟨h.fixCell rfl hb hv, h.fixFrozen rfl hb v⟩
theorem HV.setPof (h : HV E own V s w) {b : Nat} (hb : V .pof = .slice (some ⟨b, 0, none⟩) E.n E.n) (v : Nat) (x : Int) : HV E own V { s with tj := { s.tj with pof := upd s.tj.pof v x } } (w.setCell ⟨b, v, none⟩ (.int .i64 x)) :=
  ⟨h.fx, (h.mi.setR (t := .pof) rfl hb rfl v _).congr (fun t r hr => by
    cases t <;> try exact hr
    rw [updT_same, ← hr]
    show some _ = some _
    unfold rowF
    rw [map_set, upd_comp s.tj.pof v x (fun z => Value.int .i64 z)]) rfl⟩
theorem HV.setIdx (h : HV E own V s w) {b : Nat} (hb : V .idx = .slice (some ⟨b, 0, none⟩) E.n E.n) (v : Nat) (x : Nat) : HV E own V { s with tj := { s.tj with idx := upd s.tj.idx v x } } (w.setCell ⟨b, v, none⟩ (iv x)) :=
  ⟨h.fx, (h.mi.setR (t := .idx) rfl hb rfl v _).congr (fun t r hr => by
    cases t <;> try exact hr
    rw [updT_same, ← hr]
    show some _ = some _
    unfold rowF
    rw [map_set, upd_comp s.tj.idx v x iv]) rfl⟩
theorem HV.setLow (h : HV E own V s w) {b : Nat} (hb : V .low = .slice (some ⟨b, 0, none⟩) E.n E.n) (v : Nat) (x : Nat) : HV E own V { s with tj := { s.tj with low := upd s.tj.low v x } } (w.setCell ⟨b, v, none⟩ (iv x)) :=
  ⟨h.fx, (h.mi.setR (t := .low) rfl hb rfl v _).congr (fun t r hr => by
    cases t <;> try exact hr
    rw [updT_same, ← hr]
    show some _ = some _
    unfold rowF
    rw [map_set, upd_comp s.tj.low v x iv]) rfl⟩
theorem HV.setBlk (h : HV E own V s w) {b : Nat} (hb : V .blk = .slice (some ⟨b, 0, none⟩) E.n E.n) (v : Nat) (x : Bool) : HV E own V { s with jn := { s.jn with blk := upd s.jn.blk v x } } (w.setCell ⟨b, v, none⟩ (.bool x)) :=
  ⟨h.fx, (h.mi.setR (t := .blk) rfl hb rfl v _).congr (fun t r hr => by
    cases t <;> try exact hr
    rw [updT_same, ← hr]
    show some _ = some _
    unfold rowF
    rw [map_set, upd_comp s.jn.blk v x Value.bool]) rfl⟩
theorem HV.setTos (h : HV E own V s w) {b : Nat} (hb : V .tos = .slice (some ⟨b, 0, none⟩) E.n E.n) (v : Nat) (x : Bool) : HV E own V { s with tos := upd s.tos v x } (w.setCell ⟨b, v, none⟩ (.bool x)) :=
  ⟨h.fx, (h.mi.setR (t := .tos) rfl hb rfl v _).congr (fun t r hr => by
    cases t <;> try exact hr
    rw [updT_same, ← hr]
    show some _ = some _
    unfold rowF
    rw [map_set, upd_comp s.tos v x Value.bool]) rfl⟩
theorem HV.setOns (h : HV E own V s w) {b : Nat} (hb : V .ons = .slice (some ⟨b, 0, none⟩) E.n E.n) (v : Nat) (x : Bool) : HV E own V { s with tj := { s.tj with ons := upd s.tj.ons v x } } (w.setCell ⟨b, v, none⟩ (.bool x)) :=
  ⟨h.fx, (h.mi.setR (t := .ons) rfl hb rfl v _).congr (fun t r hr => by
    cases t <;> try exact hr
    rw [updT_same, ← hr]
    show some _ = some _
    unfold rowF
    rw [map_set, upd_comp s.tj.ons v x Value.bool]) rfl⟩
end
end Go.Proofs.Ybulkcyk
