/-
  What the walk of circuit wants besides: the count stays; all vertices lie below n; how many cycles there can be.
-/
import Derived.Test.YbulkcykJohn
namespace Go.Proofs.Ybulkcyk

theorem foldl_inv {α β : Type} (P : α → Prop) (f : α → β → α) (l : List β) (a : α) (h0 : P a) (h : ∀ a x, x ∈ l → P a → P (f a x)) : P (l.foldl f a) := by
  induction l generalizing a with
  | nil => exact h0
  | cons x r ih => exact ih (f a x) (h a x (by simp) h0) (fun a y hy hp => h a y (by simp [hy]) hp)

theorem unbP_opn : ∀ f v j, (unbP f v j).opn = j.opn := by
  intro f
  induction f with
  | zero => intro v j; rfl
  | succ f ih =>
    intro v j
    rw [unbP_succ]
    refine foldl_inv (fun k : Jn => k.opn = j.opn) _ _ _ rfl fun k x _ hk => ?_
    unfold unbS
    split
    · rw [ih]; exact hk
    · exact hk
theorem addAll_opn (inP : Nat → Bool) (v : Nat) (ws : List Nat) (j : Jn) : (addAll inP v ws j).opn = j.opn := (addAll_spec inP v ws j).2.1
theorem circE_opn (c : Jc) (v : Nat) (r : Rs) : (circE c v r).opn = r.j.opn := by
  unfold circE
  split
  · exact unbP_opn _ _ _
  · exact addAll_opn _ _ _ _
theorem circX_opn (c : Jc) (v : Nat) (k j : Jn) (h : k.opn = (circ0 c v j).opn) : (circX c v k).opn = j.opn := by
  show (if c.tos v then k.opn + 1 else k.opn) = j.opn
  have : (circ0 c v j).opn = if c.tos v then j.opn - 1 else j.opn := rfl
  rw [h, this]
  split <;> omega
theorem circP_opn (c : Jc) : ∀ f path v j o, (circP c f path v j o).j.opn = j.opn := by
  intro f
  induction f with
  | zero => intro path v j o; rfl
  | succ f ih =>
    intro path v j o
    rw [circP_succ]
    refine circX_opn c v _ j ?_
    rw [circE_opn]
    refine foldl_inv (fun r : Rs => r.j.opn = (circ0 c v j).opn) _ _ _ rfl fun r w _ hr => ?_
    unfold circS
    repeat' split
    all_goals first | exact hr | exact (ih _ _ _ _).trans hr
theorem circL_opn (c : Jc) (f : Nat) (path : List Nat) (v : Nat) (j : Jn) (o : Out) (pre : List Nat) : (circL c f path v j o pre).j.opn = (circ0 c v j).opn := by
  refine foldl_inv (fun r : Rs => r.j.opn = (circ0 c v j).opn) _ _ _ rfl fun r w _ hr => ?_
  unfold circS
  repeat' split
  all_goals first | exact hr | exact (circP_opn _ _ _ _ _ _).trans hr

structure SI (n : Nat) (j : Jn) : Prop where
  b : ∀ u, j.blk u = true → u < n
  l : ∀ x u, u ∈ j.bls x → u < n
  nd : ∀ x, (j.bls x).Nodup
theorem SI.len {n : Nat} {j : Jn} (h : SI n j) (x : Nat) : (j.bls x).length ≤ n := nodup_len (h.nd x) (h.l x)
theorem SI.fuel {n : Nat} {j : Jn} (h : SI n j) (v : Nat) : Fuel (n + 1) v j := ⟨List.range n, by simp, fun u hu _ => List.mem_range.2 (h.b u hu)⟩
theorem SI.unb {n : Nat} {j : Jn} (h : SI n j) (v : Nat) : SI n (unbP (n + 1) v j) := by
  have U := unb_spec (n + 1) v j (h.fuel v)
  refine ⟨fun u hu => h.b u (U.sub u hu), fun x u hu => h.l x u (U.subl x u hu), fun x => ?_⟩
  cases hx : (unbP (n + 1) v j).blk x
  · by_cases q : j.blk x = true ∨ x = v
    · rw [(U.nil x hx q).1]; exact List.nodup_nil
    · rw [U.far x (bool_false_of fun e => q (.inl e)) (fun e => q (.inr e))]; exact h.nd x
  · rw [U.same x hx]; exact h.nd x
theorem addAll_nd (inP : Nat → Bool) (v : Nat) (ws : List Nat) (j : Jn) (h : ∀ x, (j.bls x).Nodup) : ∀ x, ((addAll inP v ws j).bls x).Nodup := by
  refine foldl_inv (fun k : Jn => ∀ x, (k.bls x).Nodup) _ _ _ h fun k w _ hk x => ?_
  unfold addS
  split
  · rename_i hc
    by_cases e : x = w
    · subst e
      show (upd k.bls x (k.bls x ++ [v]) x).Nodup
      rw [upd_same]
      rw [Bool.and_eq_true] at hc
      have hn : v ∉ k.bls x := by simpa using hc.2
      exact List.nodup_append.2 ⟨hk x, by simp, fun a ha b hb e => by obtain rfl := List.mem_singleton.1 hb; exact hn (e ▸ ha)⟩
    · show (upd k.bls w (k.bls w ++ [v]) x).Nodup
      rw [upd_other _ _ e]; exact hk x
  · exact hk x
theorem SI.add {n : Nat} {j : Jn} (h : SI n j) (inP : Nat → Bool) {v : Nat} (hv : v < n) (ws : List Nat) : SI n (addAll inP v ws j) := by
  obtain ⟨a1, _, a3⟩ := addAll_spec inP v ws j
  refine ⟨fun u hu => h.b u (by rw [← a1]; exact hu), fun x u hu => ?_, addAll_nd _ _ _ _ h.nd⟩
  rcases (a3 x u).1 hu with q | q
  · exact h.l x u q
  · rw [q.1]; exact hv
theorem SI.circ0 {c : Jc} {j : Jn} (h : SI c.n j) {v : Nat} (hv : v < c.n) : SI c.n (circ0 c v j) := by
  refine ⟨fun u hu => ?_, h.l, h.nd⟩
  by_cases e : u = v
  · rw [e]; exact hv
  · have hu : upd j.blk v true u = true := hu
    rw [upd_other _ _ e] at hu
    exact h.b u hu
theorem SI.circE {c : Jc} {r : Rs} (h : SI c.n r.j) {v : Nat} (hv : v < c.n) : SI c.n (circE c v r) := by
  unfold Ybulkcyk.circE
  split
  · exact h.unb v
  · exact h.add _ hv _
theorem SI.circX {c : Jc} {k : Jn} (h : SI c.n k) (v : Nat) : SI c.n (circX c v k) := ⟨h.b, h.l, h.nd⟩
theorem circP_SI {c : Jc} (hA : ∀ v, ∀ w ∈ c.A v, w < c.n) : ∀ f path v j o, v < c.n → SI c.n j → SI c.n (circP c f path v j o).j := by
  intro f
  induction f with
  | zero => intro path v j o _ h; exact h
  | succ f ih =>
    intro path v j o hv h
    rw [circP_succ]
    refine (SI.circE ?_ hv).circX v
    refine foldl_inv (fun r : Rs => SI c.n r.j) _ _ _ (h.circ0 hv) fun r w hw hr => ?_
    unfold circS
    repeat' split
    all_goals first | exact hr | exact ih _ _ _ _ (hA v w hw) hr

/-! how many cycles -/
theorem sorted_len {n : Nat} {l : List Nat} (hs : l.Pairwise (· < ·)) (hl : ∀ u ∈ l, u < n) : l.length ≤ n := nodup_len (hs.imp fun h => by omega) hl
theorem emit_len (lim : Int) (o : Out) (p : List Nat) : (emit lim o p).cyc.length ≤ o.cyc.length + 1 := by
  unfold emit
  split <;> simp
theorem emit_num (lim : Int) (o : Out) (p : List Nat) (K : Int) (h : o.num ≤ K) : (emit lim o p).num ≤ K := by
  unfold emit
  split
  · exact h
  · show o.num - (p.length : Int) ≤ K
    omega
theorem dfsL_len {A : Nat → List Nat} {lim : Int} {st n f : Nat} {path : List Nat} {v : Nat} (hn : 0 < n) (ih : ∀ w o, (dfsP A lim st f (path ++ [v]) w o).cyc.length ≤ o.cyc.length + n ^ f) : ∀ (ws : List Nat) (o : Out), (ws.foldl (dfsS A lim st f path v) o).cyc.length ≤ o.cyc.length + ws.length * n ^ f := by
  intro ws
  induction ws with
  | nil => intro o; simp
  | cons w r ihr =>
    intro o
    rw [List.foldl_cons]
    have h1 := ihr (dfsS A lim st f path v o w)
    have hp : 0 < n ^ f := Nat.pow_pos hn
    have h2 : (dfsS A lim st f path v o w).cyc.length ≤ o.cyc.length + n ^ f := by
      unfold dfsS
      repeat' split
      · omega
      · have := emit_len lim o (path ++ [v]); omega
      · exact ih w o
      · omega
    rw [List.length_cons, Nat.add_mul]
    omega
theorem dfsP_len {A : Nat → List Nat} {lim : Int} {st n : Nat} (hn : 0 < n) (hs : ∀ v, (A v).Pairwise (· < ·)) (hA : ∀ v, ∀ w ∈ A v, w < n) : ∀ f path v o, (dfsP A lim st f path v o).cyc.length ≤ o.cyc.length + n ^ f := by
  intro f
  induction f with
  | zero => intro path v o; show o.cyc.length ≤ _; omega
  | succ f ih =>
    intro path v o
    rw [dfsP_succ]
    have h1 := dfsL_len (A := A) (lim := lim) (st := st) (path := path) (v := v) hn (fun w o => ih (path ++ [v]) w o) (A v) o
    have h2 := sorted_len (hs v) (hA v)
    have h3 : (A v).length * n ^ f ≤ n * n ^ f := Nat.mul_le_mul_right _ h2
    rw [Nat.pow_succ, Nat.mul_comm (n ^ f) n]
    omega
theorem dfsP_num {A : Nat → List Nat} {lim : Int} {st : Nat} (K : Int) : ∀ f path v o, o.num ≤ K → (dfsP A lim st f path v o).num ≤ K := by
  intro f
  induction f with
  | zero => intro path v o h; exact h
  | succ f ih =>
    intro path v o h
    rw [dfsP_succ]
    refine foldl_inv (fun o : Out => o.num ≤ K) _ _ _ h fun o w _ ho => ?_
    unfold dfsS
    repeat' split
    all_goals first | exact ho | exact emit_num _ _ _ _ ho | exact ih _ _ _ ho
theorem dfsL_num {A : Nat → List Nat} {lim : Int} {st f : Nat} {path : List Nat} {v : Nat} (K : Int) (ws : List Nat) (o : Out) (h : o.num ≤ K) : (ws.foldl (dfsS A lim st f path v) o).num ≤ K := by
  refine foldl_inv (fun o : Out => o.num ≤ K) _ _ _ h fun o w _ ho => ?_
  unfold dfsS
  repeat' split
  all_goals first | exact ho | exact emit_num _ _ _ _ ho | exact dfsP_num _ _ _ _ _ ho

end Go.Proofs.Ybulkcyk
