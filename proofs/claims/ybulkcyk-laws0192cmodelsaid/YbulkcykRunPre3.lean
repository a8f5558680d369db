/-
  run's loop over the starts: what holds ahead of each.
-/
import Derived.Test.YbulkcykRunPre2
namespace Go.Proofs.Ybulkcyk
open Go.RowKit

structure RI (E : En) (num : Int) (i : Nat) (s : Hs) : Prop where
  ss : ssOf s = runL E.A E.R E.n E.lim (splitP E.A E.R E.n 0 (ss0 E.n num)) i
  start : s.start = (i : Int)
  path : s.path = []
  tos : s.tos = fun _ => false
  held : s.held = none
  off : ∀ p, s.tj.np ≤ p → s.off p = 0
  np : s.tj.np ≤ 1 + E.n + E.n * i
  cyc : s.out.cyc.length ≤ i * 5764801
  nu : s.out.num ≤ 9223372036854775807
  mo : s.out.more = false
theorem PI.jn {A : Nat → List Nat} {n st : Nat} {ex : Int} {s : Ss} (P : PI A n st ex s) {j : Jn} (o : Out) (h : JR j) : PI A n st ex { s with jn := j, out := o } :=
  ⟨P.rest, h, P.pn, P.lo, P.rg, P.mem, P.fr, P.sc, P.mx, P.lp, P.ls⟩
theorem modelP_more (A : Nat → List Nat) (lim : Int) (n : Nat) (o : Out) (i : Nat) (h : (modelP A lim n i o).more = true) : ∀ j, modelP A lim n (i + j) o = modelP A lim n i o := by
  intro j
  induction j with
  | zero => rfl
  | succ j ih =>
    show (if (modelP A lim n (i + j) o).more then modelP A lim n (i + j) o else _) = _
    rw [ih, if_pos h]
theorem spre0 {E : En} {num : Int} (hn7 : E.n ≤ 7) : SPre E 0 0 (hs0 E.n num) :=
  ⟨start_PI E.n num, Nat.zero_lt_one, rfl, fun _ _ => rfl, by show 1 + E.n ≤ 1000; omega, hn7⟩
theorem ri0 {E : En} {num : Int} (hn7 : E.n ≤ 7) (hnum : num ≤ 9223372036854775807) (a b : Int) (hb : b = 0) (o : Nat → Nat) (ho : ∀ p, 1 ≤ p → o p = 0) : RI E num 0 { hsOf (hs0 E.n num) (splitP E.A E.R E.n 0 (ss0 E.n num)) with within := a, start := b, off := o } := by
  have h := (spre0 (E := E) (num := num) hn7).npb
  have h1 : (hs0 E.n num).tj.np = 1 := rfl
  refine ⟨rfl, hb, rfl, rfl, rfl, fun p hp => ho p ?_, ?_, by show 0 ≤ _; omega, hnum, rfl⟩
  · have h2 : (splitP E.A E.R E.n 0 (ssOf (hs0 E.n num))).tj.np ≤ p := hp
    omega
  · show (splitP E.A E.R E.n 0 (ssOf (hs0 E.n num))).tj.np ≤ 1 + E.n + E.n * 0
    omega
section
variable {E : En} {num : Int} {i : Nat} {s : Hs}
theorem RI.pi (G : GH E.A E.R E.n) (R : RI E num i s) (hi : i < E.n) : PI E.A E.n i (-1) (ssOf s) := by
  have h := (run_law (lim := E.lim) G num i (Nat.le_of_lt hi)).2
  rw [← R.ss] at h
  exact h R.mo
theorem RI.round (R : RI E num i s) : runL E.A E.R E.n E.lim (splitP E.A E.R E.n 0 (ss0 E.n num)) (i + 1) = roundP E.A E.R E.n E.lim i (ssOf s) := by
  show (if (runL E.A E.R E.n E.lim (splitP E.A E.R E.n 0 (ss0 E.n num)) i).out.more then _ else _) = _
  rw [← R.ss, if_neg (by show ¬ s.out.more = true; rw [R.mo]; simp)]
theorem mul7 (hi : i < E.n) (hn7 : E.n ≤ 7) : E.n * i ≤ 49 := by
  have := Nat.mul_le_mul hn7 (show i ≤ 7 by omega)
  omega
theorem RI.end (G : GH E.A E.R E.n) (R : RI E num E.n s) : s.out = modelP E.A E.lim E.n E.n { cyc := [], num := num, more := false } := by
  have h := law G E.lim num
  have h2 : (ssOf s).out = (runP E.A E.R E.n E.lim num).out := by rw [R.ss]; rfl
  rw [← h, ← h2]; rfl
theorem RI.neg (R : RI E num i s) (h : s.tj.pof i < 0) (a : Int) : RI E num (i + 1) { s with within := a, start := ((i + 1 : Nat) : Int) } := by
  refine ⟨?_, rfl, R.path, R.tos, R.held, R.off, ?_, ?_, R.nu, R.mo⟩
  · rw [R.round]
    unfold roundP
    rw [if_pos (show (ssOf s).tj.pof i < 0 from h)]
    rfl
  · have := R.np
    show s.tj.np ≤ 1 + E.n + E.n * (i + 1)
    rw [Nat.mul_add]
    omega
  · exact Nat.le_trans R.cyc (Nat.mul_le_mul_right _ (Nat.le_succ i))
theorem RI.lk (G : GH E.A E.R E.n) (R : RI E num i s) (hn7 : E.n ≤ 7) (hi : i < E.n) (h : 0 ≤ s.tj.pof i) : LkPre E i { s with within := s.tj.pof i } :=
  ⟨(R.pi G hi : PI E.A E.n i (-1) (ssOf s)), hi, h, R.start, rfl, R.tos, R.path, R.mo, R.nu, by have h1 := R.cyc; have h2 : i * 5764801 ≤ 7 * 5764801 := Nat.mul_le_mul_right _ (by omega); show s.out.cyc.length ≤ 100000000; omega⟩
theorem RI.more (G : GH E.A E.R E.n) (R : RI E num i s) (hi : i < E.n) (h : 0 ≤ s.tj.pof i) (hm : (lookP E.A E.R E.n E.lim i (ssOf s)).out.more = true) : (lookP E.A E.R E.n E.lim i (ssOf s)).out = modelP E.A E.lim E.n E.n { cyc := [], num := num, more := false } := by
  have h1 := (run_law (lim := E.lim) G num (i + 1) hi).1
  rw [R.round] at h1
  unfold roundP at h1
  rw [if_neg (by show ¬ s.tj.pof i < 0; omega), if_pos hm] at h1
  rw [h1]
  rw [h1] at hm
  have h2 := modelP_more E.A E.lim E.n _ (i + 1) hm (E.n - (i + 1))
  rw [show i + 1 + (E.n - (i + 1)) = E.n by omega] at h2
  exact h2.symm
theorem RI.lv (G : GH E.A E.R E.n) (R : RI E num i s) (hn7 : E.n ≤ 7) (hi : i < E.n) {id : Nat} (h : s.tj.pof i = (id : Int)) (hm : (lookP E.A E.R E.n E.lim i (ssOf s)).out.more = false) : LvPre E i id (hsOf { s with within := s.tj.pof i } (lookP E.A E.R E.n E.lim i (ssOf s))) := by
  have P := R.pi G hi
  have h0 : 0 ≤ (ssOf s).tj.pof i := by show 0 ≤ s.tj.pof i; omega
  have L := look_law (lim := E.lim) G P hi h0 R.mo
  refine ⟨?_, hi, h, R.start, h, R.held, R.off, ?_⟩
  · exact P.jn (lookP E.A E.R E.n E.lim i (ssOf s)).out (L.2.1 hm)
  · have h1 := R.np
    have h2 := mul7 (E := E) hi hn7
    show s.tj.np + E.n ≤ 1000
    omega
theorem RI.next (G : GH E.A E.R E.n) (R : RI E num i s) (hn7 : E.n ≤ 7) (hi : i < E.n) {id : Nat} (h : s.tj.pof i = (id : Int)) (hm : (lookP E.A E.R E.n E.lim i (ssOf s)).out.more = false) (off' : Nat → Nat) (h1 : ∀ p, (leaveP E.A E.R E.n i (lookP E.A E.R E.n E.lim i (ssOf s))).tj.np ≤ p → off' p = 0) (h2 : (leaveP E.A E.R E.n i (lookP E.A E.R E.n E.lim i (ssOf s))).tj.np ≤ s.tj.np + E.n) : RI E num (i + 1) { hsOf (hsOf { s with within := s.tj.pof i } (lookP E.A E.R E.n E.lim i (ssOf s))) (leaveP E.A E.R E.n i (lookP E.A E.R E.n E.lim i (ssOf s))) with off := off', start := ((i + 1 : Nat) : Int) } := by
  have P := R.pi G hi
  have h0 : 0 ≤ (ssOf s).tj.pof i := by show 0 ≤ s.tj.pof i; omega
  have L := look_law (lim := E.lim) G P hi h0 R.mo
  have hlo : (leaveP E.A E.R E.n i (lookP E.A E.R E.n E.lim i (ssOf s))).out = (lookP E.A E.R E.n E.lim i (ssOf s)).out := by
    unfold leaveP
    dsimp only
    split <;> rfl
  have hout : (lookP E.A E.R E.n E.lim i (ssOf s)).out = dfsP E.A E.lim i (E.n + 1) [] i s.out := L.1
  refine ⟨?_, rfl, R.path, R.tos, R.held, h1, ?_, ?_, ?_, ?_⟩
  · rw [R.round]
    unfold roundP
    rw [if_neg (by show ¬ s.tj.pof i < 0; omega), if_neg (by rw [hm]; simp)]
    rfl
  · have := R.np
    show (leaveP E.A E.R E.n i (lookP E.A E.R E.n E.lim i (ssOf s))).tj.np ≤ 1 + E.n + E.n * (i + 1)
    rw [Nat.mul_add]
    omega
  · show (leaveP E.A E.R E.n i (lookP E.A E.R E.n E.lim i (ssOf s))).out.cyc.length ≤ (i + 1) * 5764801
    rw [hlo, hout]
    have h7 : ∀ v, ∀ w ∈ E.A v, w < 7 := fun v w hw => by have := G.lt v w hw; omega
    have a := dfsP_len (lim := E.lim) (st := i) (n := 7) (by omega) G.srt h7 (E.n + 1) [] i s.out
    have b : (7 : Nat) ^ (E.n + 1) ≤ 7 ^ 8 := Nat.pow_le_pow_right (by omega) (by omega)
    have c : (7 : Nat) ^ 8 = 5764801 := by decide
    have d := R.cyc
    rw [Nat.succ_mul]
    generalize i * 5764801 = z at *
    omega
  · show (leaveP E.A E.R E.n i (lookP E.A E.R E.n E.lim i (ssOf s))).out.num ≤ 9223372036854775807
    rw [hlo, hout]
    exact dfsP_num _ _ _ _ _ R.nu
  · show (leaveP E.A E.R E.n i (lookP E.A E.R E.n E.lim i (ssOf s))).out.more = false
    rw [hlo]; exact hm
end
end Go.Proofs.Ybulkcyk
