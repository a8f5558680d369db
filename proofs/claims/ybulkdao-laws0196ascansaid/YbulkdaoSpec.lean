/-
  The plain functions that the walks compute: RecoveryOf as a fold; the model by searches. No Go in sight.
-/
import Derived.MapKept
namespace Go.Proofs.Ybulkdao

/-- A step: its kind, its transaction, its key, its prefix. -/
structure Stp where
  kd : Int
  tx : Int
  ky : ByteArray
  px : ByteArray

/-- What RecoveryOf holds. -/
structure Sig where
  com : Int → Bool
  abo : Int → Bool
  wrs : ByteArray → List Int
  opn : ByteArray → List Int
  wrt : Int → List ByteArray
  rdf : Int → List Int
  rcv : Bool
  cas : Bool
  str : Bool

def updI {α : Type} (f : Int → α) (t : Int) (v : α) : Int → α := fun x => if x == t then v else f x
def updS {α : Type} (f : ByteArray → α) (k : ByteArray) (v : α) : ByteArray → α := fun x => if x == k then v else f x

def dropAb (ab : Int → Bool) (xs : List Int) : List Int := (xs.reverse.dropWhile ab).reverse
theorem dropAb_nil (ab : Int → Bool) : dropAb ab [] = [] := rfl
theorem dropAb_concat (ab : Int → Bool) (xs : List Int) (a : Int) : dropAb ab (xs ++ [a]) = if ab a then dropAb ab xs else xs ++ [a] := by
  unfold dropAb
  rw [List.reverse_append]
  simp only [List.reverse_cons, List.reverse_nil, List.nil_append, List.singleton_append, List.dropWhile_cons]
  split <;> simp

/-- Some other transaction has written the key and not ended. -/
def bad (σ : Sig) (s : Stp) : Bool := decide (1 < (σ.opn s.ky).length) || (decide ((σ.opn s.ky).length = 1) && !((σ.opn s.ky).contains s.tx))

def seen (σ : Sig) (s : Stp) : Sig := { σ with str := σ.str && !bad σ s }
def readTo (σ : Sig) (s : Stp) (w : List Int) : Sig :=
  match w.getLast? with
  | none => { σ with wrs := updS σ.wrs s.ky w }
  | some f => if f == s.tx then { σ with wrs := updS σ.wrs s.ky w } else { σ with wrs := updS σ.wrs s.ky w, cas := σ.cas && σ.com f, rdf := updI σ.rdf s.tx (σ.rdf s.tx ++ [f]) }
def wrote (σ : Sig) (s : Stp) : Sig :=
  if (σ.opn s.ky).contains s.tx then { σ with wrs := updS σ.wrs s.ky (σ.wrs s.ky ++ [s.tx]) }
  else { σ with wrs := updS σ.wrs s.ky (σ.wrs s.ky ++ [s.tx]), opn := updS σ.opn s.ky (σ.opn s.ky ++ [s.tx]), wrt := updI σ.wrt s.tx (σ.wrt s.tx ++ [s.ky]) }
def delAll (t : Int) (opn : ByteArray → List Int) : List ByteArray → (ByteArray → List Int)
  | [] => opn
  | k :: ks => delAll t (updS opn k ((opn k).erase t)) ks
def ended (σ : Sig) (s : Stp) : Sig := { σ with opn := delAll s.tx σ.opn (σ.wrt s.tx) }
def stepR (σ : Sig) (s : Stp) : Sig :=
  if s.kd = 1 then readTo (seen σ s) s (dropAb σ.abo (σ.wrs s.ky))
  else if s.kd = 2 then wrote (seen σ s) s
  else if s.kd = 5 then { ended σ s with abo := updI σ.abo s.tx true }
  else if s.kd = 4 then { ended σ s with com := updI σ.com s.tx true, rcv := σ.rcv && (σ.rdf s.tx).all (updI σ.com s.tx true) }
  else σ
def sig0 : Sig := ⟨fun _ => false, fun _ => false, fun _ => [], fun _ => [], fun _ => [], fun _ => [], true, true, true⟩
/-- What RecoveryOf holds behind i steps. -/
def sigR (S : Nat → Stp) : Nat → Sig
  | 0 => sig0
  | i + 1 => stepR (sigR S i) (S i)

/-! The model. -/
/-- The first abort (kd = 5) or commit (kd = 4) of u among the first i steps; n if there is none. -/
def fstN (S : Nat → Stp) (n : Nat) (kd : Int) (u : Int) : Nat → Nat
  | 0 => n
  | i + 1 => if (S i).kd = kd ∧ (S i).tx = u ∧ fstN S n kd u i = n then i else fstN S n kd u i
/-- Looking back from m: u has written k since it last ended. -/
def dirty (S : Nat → Stp) (u : Int) (k : ByteArray) : Nat → Bool
  | 0 => false
  | m + 1 => if (S m).tx ≠ u then dirty S u k m else if (S m).kd = 4 ∨ (S m).kd = 5 then false else if (S m).kd = 2 ∧ (S m).ky = k then true else dirty S u k m
/-- Looking back from m: the last writer of k that has not aborted before i; -1 if there is none. -/
def srcOf (S : Nat → Stp) (fa : Int → Nat) (k : ByteArray) (i : Nat) : Nat → Int
  | 0 => -1
  | m + 1 => if (S m).kd = 2 ∧ (S m).ky = k ∧ ¬ fa (S m).tx < i then (S m).tx else srcOf S fa k i m
/-- Looking on from j, d steps: at the first commit of t, was c before it? -/
def fwd (S : Nat → Stp) (t : Int) (c : Nat) : Nat → Nat → Bool
  | 0, _ => true
  | d + 1, j => if (S j).kd = 4 ∧ (S j).tx = t then decide (c < j) else fwd S t c d (j + 1)

def okS (S : Nat → Stp) (i : Nat) : Bool := (decide ((S i).kd ≠ 1 ∧ (S i).kd ≠ 2)) || ([0, 1, 2, 3].all fun u : Int => decide (u = (S i).tx) || !dirty S u (S i).ky i)
def okC (S : Nat → Stp) (n i : Nat) : Bool :=
  let f := srcOf S (fun u => fstN S n 5 u n) (S i).ky i i
  decide ((S i).kd ≠ 1) || decide (f < 0) || decide (f = (S i).tx) || decide (fstN S n 4 f n < i)
def okR (S : Nat → Stp) (n i : Nat) : Bool :=
  let f := srcOf S (fun u => fstN S n 5 u n) (S i).ky i i
  decide ((S i).kd ≠ 1) || decide (f < 0) || decide (f = (S i).tx) || fwd S (S i).tx (fstN S n 4 f n) (n - (i + 1)) (i + 1)
def allTo (p : Nat → Bool) : Nat → Bool
  | 0 => true
  | i + 1 => allTo p i && p i
def modS (S : Nat → Stp) (n : Nat) : Bool := allTo (okS S) n
def modC (S : Nat → Stp) (n : Nat) : Bool := allTo (okC S n) n
def modR (S : Nat → Stp) (n : Nat) : Bool := allTo (okR S n) n

end Go.Proofs.Ybulkdao
