/-
  The plain functions that the walks compute: the plain depth-first walk; Johnson's search (circuit, unblock); Tarjan's walk. No Go in sight.
-/
import Derived.MapKept
namespace Go.Proofs.Ybulkcyk

def upd {α : Type} (f : Nat → α) (v : Nat) (x : α) : Nat → α := fun u => if u = v then x else f u
theorem upd_same {α : Type} (f : Nat → α) (v : Nat) (x : α) : upd f v x v = x := by simp [upd]
theorem upd_other {α : Type} (f : Nat → α) {v u : Nat} (x : α) (h : u ≠ v) : upd f v x u = f u := by simp [upd, h]

/-- What both searches record. -/
structure Out where
  cyc : List (List Nat)
  num : Int
  more : Bool
def emit (lim : Int) (o : Out) (p : List Nat) : Out :=
  if (o.cyc.length : Int) = lim ∨ o.num < (p.length : Int) then { o with more := true } else { o with cyc := o.cyc ++ [p], num := o.num - p.length }

/-- The plain walk over simple paths. -/
def dfsP (A : Nat → List Nat) (lim : Int) (st : Nat) : Nat → List Nat → Nat → Out → Out
  | 0, _, _, o => o
  | f + 1, path, v, o => (A v).foldl (fun o w => if o.more then o else if w = st then emit lim o (path ++ [v]) else if st < w ∧ ¬ (path ++ [v]).contains w then dfsP A lim st f (path ++ [v]) w o else o) o
def dfsS (A : Nat → List Nat) (lim : Int) (st f : Nat) (path : List Nat) (v : Nat) (o : Out) (w : Nat) : Out :=
  if o.more then o else if w = st then emit lim o (path ++ [v]) else if st < w ∧ ¬ (path ++ [v]).contains w then dfsP A lim st f (path ++ [v]) w o else o
theorem dfsP_succ (A : Nat → List Nat) (lim : Int) (st f : Nat) (path : List Nat) (v : Nat) (o : Out) : dfsP A lim st (f + 1) path v o = (A v).foldl (dfsS A lim st f path v) o := rfl
/-- All starts in turn. -/
def modelP (A : Nat → List Nat) (lim : Int) (n : Nat) : Nat → Out → Out
  | 0, o => o
  | i + 1, o => let o1 := modelP A lim n i o; if o1.more then o1 else dfsP A lim i (n + 1) [] i o1

/-- What Johnson's search holds beside. -/
structure Jn where
  blk : Nat → Bool
  bls : Nat → List Nat
  opn : Int
def unbP : Nat → Nat → Jn → Jn
  | 0, _, j => j
  | f + 1, v, j => (j.bls v).reverse.foldl (fun j w => if j.blk w then unbP f w { j with bls := upd j.bls v (j.bls v).dropLast } else { j with bls := upd j.bls v (j.bls v).dropLast }) { j with blk := upd j.blk v false }
def unbS (f v : Nat) (j : Jn) (w : Nat) : Jn := if j.blk w then unbP f w { j with bls := upd j.bls v (j.bls v).dropLast } else { j with bls := upd j.bls v (j.bls v).dropLast }
theorem unbP_succ (f v : Nat) (j : Jn) : unbP (f + 1) v j = (j.bls v).reverse.foldl (unbS f v) { j with blk := upd j.blk v false } := rfl
def addS (inP : Nat → Bool) (v : Nat) (j : Jn) (w : Nat) : Jn := if inP w && !(j.bls w).contains v then { j with bls := upd j.bls w (j.bls w ++ [v]) } else j
def addAll (inP : Nat → Bool) (v : Nat) (ws : List Nat) (j : Jn) : Jn := ws.foldl (addS inP v) j

structure Jc where
  A : Nat → List Nat
  n : Nat
  st : Nat
  inP : Nat → Bool
  tos : Nat → Bool
  lim : Int
structure Rs where
  found : Bool
  j : Jn
  o : Out
def circP (c : Jc) : Nat → List Nat → Nat → Jn → Out → Rs
  | 0, _, _, j, o => ⟨false, j, o⟩
  | f + 1, path, v, j, o =>
    let r := (c.A v).foldl (fun (r : Rs) w =>
      if r.o.more then r
      else if !c.inP w then r
      else if w = c.st then ⟨if (emit c.lim r.o (path ++ [v])).more then r.found else true, r.j, emit c.lim r.o (path ++ [v])⟩
      else if r.j.opn = 0 then r
      else if r.j.blk w then r
      else let q := circP c f (path ++ [v]) w r.j r.o; ⟨q.found || r.found, q.j, q.o⟩) ⟨false, { j with blk := upd j.blk v true, opn := if c.tos v then j.opn - 1 else j.opn }, o⟩
    let j3 := if r.found then unbP (c.n + 1) v r.j else addAll c.inP v (c.A v) r.j
    ⟨r.found, { j3 with opn := if c.tos v then j3.opn + 1 else j3.opn }, r.o⟩
def circS (c : Jc) (f : Nat) (path : List Nat) (v : Nat) (r : Rs) (w : Nat) : Rs :=
  if r.o.more then r
  else if !c.inP w then r
  else if w = c.st then ⟨if (emit c.lim r.o (path ++ [v])).more then r.found else true, r.j, emit c.lim r.o (path ++ [v])⟩
  else if r.j.opn = 0 then r
  else if r.j.blk w then r
  else ⟨(circP c f (path ++ [v]) w r.j r.o).found || r.found, (circP c f (path ++ [v]) w r.j r.o).j, (circP c f (path ++ [v]) w r.j r.o).o⟩
def circ0 (c : Jc) (v : Nat) (j : Jn) : Jn := { j with blk := upd j.blk v true, opn := if c.tos v then j.opn - 1 else j.opn }
def circL (c : Jc) (f : Nat) (path : List Nat) (v : Nat) (j : Jn) (o : Out) (ws : List Nat) : Rs := ws.foldl (circS c f path v) ⟨false, circ0 c v j, o⟩
def circE (c : Jc) (v : Nat) (r : Rs) : Jn := if r.found then unbP (c.n + 1) v r.j else addAll c.inP v (c.A v) r.j
def circX (c : Jc) (v : Nat) (j3 : Jn) : Jn := { j3 with opn := if c.tos v then j3.opn + 1 else j3.opn }
theorem circP_succ (c : Jc) (f : Nat) (path : List Nat) (v : Nat) (j : Jn) (o : Out) : circP c (f + 1) path v j o = ⟨(circL c f path v j o (c.A v)).found, circX c v (circE c v (circL c f path v j o (c.A v))), (circL c f path v j o (c.A v)).o⟩ := rfl

/-- What Tarjan's walk holds. -/
structure Tj where
  idx : Nat → Nat
  low : Nat → Nat
  stk : List Nat
  ons : Nat → Bool
  pof : Nat → Int
  np : Nat
  rch : Nat
def posOf (stk : List Nat) (v : Nat) : Nat := stk.length - 1 - (stk.reverse.takeWhile (fun x => x != v)).length
/-- Whether the members make a part. -/
def isPart (A : Nat → List Nat) (v : Nat) (mem : List Nat) : Bool := decide (1 < mem.length) || (A v).contains v
def markS (id : Int) (t : Tj) (m : Nat) : Tj := { t with ons := upd t.ons m false, pof := upd t.pof m id }
def popP (A : Nat → List Nat) (v : Nat) (t : Tj) : Tj :=
  let mem := t.stk.drop (posOf t.stk v)
  let t1 := { t with stk := t.stk.take (posOf t.stk v), np := if isPart A v mem then t.np + 1 else t.np }
  mem.foldl (markS (if isPart A v mem then (t.np : Int) else -1)) t1
def walk0 (v : Nat) (t : Tj) : Tj := { t with rch := t.rch + 1, idx := upd t.idx v (t.rch + 1), low := upd t.low v (t.rch + 1), stk := t.stk ++ [v], ons := upd t.ons v true }
def walkP (A : Nat → List Nat) (id : Int) : Nat → Nat → Tj → Tj
  | 0, _, t => t
  | f + 1, v, t =>
    let t2 := (A v).foldl (fun (t : Tj) w =>
      if t.pof w ≠ id then t
      else if t.idx w = 0 then let t' := walkP A id f w t; { t' with low := upd t'.low v (min (t'.low v) (t'.low w)) }
      else if t.ons w then { t with low := upd t.low v (min (t.low v) (t.idx w)) }
      else t) (walk0 v t)
    if t2.low v ≠ t2.idx v then t2 else popP A v t2
def walkS (A : Nat → List Nat) (id : Int) (f v : Nat) (t : Tj) (w : Nat) : Tj :=
  if t.pof w ≠ id then t
  else if t.idx w = 0 then { walkP A id f w t with low := upd (walkP A id f w t).low v (min ((walkP A id f w t).low v) ((walkP A id f w t).low w)) }
  else if t.ons w then { t with low := upd t.low v (min (t.low v) (t.idx w)) }
  else t
def walkL (A : Nat → List Nat) (id : Int) (f v : Nat) (t : Tj) (ws : List Nat) : Tj := ws.foldl (walkS A id f v) (walk0 v t)
def walkX (A : Nat → List Nat) (v : Nat) (t2 : Tj) : Tj := if t2.low v ≠ t2.idx v then t2 else popP A v t2
theorem walkP_succ (A : Nat → List Nat) (id : Int) (f v : Nat) (t : Tj) : walkP A id (f + 1) v t = walkX A v (walkL A id f v t (A v)) := rfl

end Go.Proofs.Ybulkcyk
