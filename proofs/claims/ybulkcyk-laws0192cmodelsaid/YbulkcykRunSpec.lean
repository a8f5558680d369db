/-
  The plain functions that split, loosest, look, leave and run compute.
-/
import Derived.Test.YbulkcykSpec
namespace Go.Proofs.Ybulkcyk

structure Ss where
  tj : Tj
  mem : Nat → List Nat
  loo : Nat → Int
  jn : Jn
  out : Out
def abv (pof : Nat → Int) (id : Nat) (v w : Nat) : Bool := decide (v < w) && decide (pof w = (id : Int))
def tied (A R : Nat → List Nat) (pof : Nat → Int) (id v : Nat) : Bool := (A v).any (abv pof id v) && (R v).any (abv pof id v)
def loosestP (A R : Nat → List Nat) (pof : Nat → Int) (id : Nat) (ms : List Nat) : Int :=
  match ms.dropLast.reverse.find? (fun v => !tied A R pof id v) with
  | some v => (v : Int)
  | none => -1
def spl1S (A : Nat → List Nat) (n : Nat) (id : Int) (t : Tj) (v : Nat) : Tj := if t.idx v = 0 then walkP A id n v t else t
def spl2S (r : Tj × (Nat → List Nat)) (v : Nat) : Tj × (Nat → List Nat) :=
  ({ r.1 with idx := upd r.1.idx v 0 }, if 0 ≤ r.1.pof v then upd r.2 (r.1.pof v).toNat (r.2 (r.1.pof v).toNat ++ [v]) else r.2)
def loosL (A R : Nat → List Nat) (pof : Nat → Int) (mem : Nat → List Nat) (first : Nat) (loo : Nat → Int) : Nat → (Nat → Int)
  | 0 => loo
  | k + 1 => upd (loosL A R pof mem first loo k) (first + k) (loosestP A R pof (first + k) (mem (first + k)))
def splT (A : Nat → List Nat) (n id : Nat) (s : Ss) : Tj := (s.mem id).foldl (spl1S A n id) { s.tj with rch := 0 }
def splR (A : Nat → List Nat) (n id : Nat) (s : Ss) : Tj × (Nat → List Nat) := (s.mem id).foldl spl2S (splT A n id s, upd s.mem id [])
def splitP (A R : Nat → List Nat) (n id : Nat) (s : Ss) : Ss :=
  { s with tj := (splR A n id s).1, mem := (splR A n id s).2, loo := loosL A R (splR A n id s).1.pof (splR A n id s).2 s.tj.np s.loo ((splR A n id s).1.np - s.tj.np) }
def jcOf (A : Nat → List Nat) (R : Nat → List Nat) (n : Nat) (lim : Int) (st : Nat) (pof : Nat → Int) : Jc := { A := A, n := n, st := st, inP := fun w => decide (pof w = pof st), tos := fun u => (R st).contains u && decide (pof u = pof st), lim := lim }
def lookP (A R : Nat → List Nat) (n : Nat) (lim : Int) (st : Nat) (s : Ss) : Ss :=
  let r := circP (jcOf A R n lim st s.tj.pof) (n + 1) [] st { s.jn with opn := (((R st).filter (fun u => decide (s.tj.pof u = s.tj.pof st))).length : Int) } s.out
  { s with jn := { r.j with opn := 0 }, out := r.o }
def leave0 (st id : Nat) (s : Ss) : Ss := { s with tj := { s.tj with pof := upd s.tj.pof st (-1) }, mem := upd s.mem id (s.mem id).tail }
def leaveB (id : Nat) (s : Ss) : Bool := decide ((s.mem id).length < 2) || decide (((s.mem id).headD 0 : Int) ≤ s.loo id)
def leaveP (A R : Nat → List Nat) (n st : Nat) (s : Ss) : Ss :=
  let id := (s.tj.pof st).toNat
  if leaveB id (leave0 st id s) then splitP A R n id (leave0 st id s) else leave0 st id s
def roundP (A R : Nat → List Nat) (n : Nat) (lim : Int) (st : Nat) (s : Ss) : Ss :=
  if s.tj.pof st < 0 then s else if (lookP A R n lim st s).out.more then lookP A R n lim st s else leaveP A R n st (lookP A R n lim st s)
def runL (A R : Nat → List Nat) (n : Nat) (lim : Int) (s : Ss) : Nat → Ss
  | 0 => s
  | i + 1 => if (runL A R n lim s i).out.more then runL A R n lim s i else roundP A R n lim i (runL A R n lim s i)
def ss0 (n : Nat) (num : Int) : Ss :=
  { tj := { idx := fun _ => 0, low := fun _ => 0, stk := [], ons := fun _ => false, pof := fun u => if u < n then 0 else -1, np := 1, rch := 0 }, mem := upd (fun _ => []) 0 (List.range n), loo := fun _ => 0,
    jn := { blk := fun _ => false, bls := fun _ => [], opn := 0 }, out := { cyc := [], num := num, more := false } }
def runP (A R : Nat → List Nat) (n : Nat) (lim num : Int) : Ss := runL A R n lim (splitP A R n 0 (ss0 n num)) n

end Go.Proofs.Ybulkcyk
