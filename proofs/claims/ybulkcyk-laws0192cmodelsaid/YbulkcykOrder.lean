/-
  A region that draws its order, whose last operation (a store) waits for the loads of the very cell that it writes: the loads may be taken first all the same: what they ask of the world is to be shown behind every operation BUT the last.
-/
import Derived.OrdersHeld
import Derived.Deep.RegionHeld3
namespace Go.Proofs.Ybulkcyk

section
variable {P : Program} {md : Region.Mode} {ops : Array Oper} {Q : Exit → Act → World → Prop} {last : Nat} {T : World → Prop}
/-- Whatever order is picked from here on; behind every operation but number 'last' T holds. -/
def AnyBut (P : Program) (md : Region.Mode) (ops : Array Oper) (Q : Exit → Act → World → Prop) (last : Nat) (T : World → Prop) : Nat → Array Bool → Act → World → Prop
  | 0, listed, a, w => Region.ready md ops listed = [] ∧ Q .normal a w
  | fuel + 1, listed, a, w => (Region.ready md ops listed = [] → Q .normal a w) ∧ ∀ i ∈ Region.ready md ops listed, wpOp P ops Q i (fun a' w' => (i ≠ last → T w') ∧ AnyBut P md ops Q last T fuel (listed.setIfInBounds i true) a' w') a w
theorem AnyBut.any : ∀ (fuel : Nat) (listed : Array Bool) (a : Act) (w : World), AnyBut P md ops Q last T fuel listed a w → wpAny P md ops Q fuel listed a w
  | 0, _, _, _, h => h
  | fuel + 1, _, _, _, h => ⟨h.1, fun i hi => wpOp_mono (fun a' w' h' => AnyBut.any fuel _ a' w' h'.2) (h.2 i hi)⟩
theorem AnyBut.start {id : Nat} {a : Act} {w : World} (hm : P.follows .mixedOrders = true) (h : AnyBut P .any ops Q last T ops.size (Array.replicate ops.size false) a w.drew) : (Code.region id ops true).wp P Q a w :=
  wp_region_any hm (AnyBut.any _ _ _ _ h)
theorem AnyBut.done {listed : Array Bool} {a : Act} {w : World} (hr : Region.ready md ops listed = []) (h : Q .normal a w) : ∀ fuel, AnyBut P md ops Q last T fuel listed a w
  | 0 => ⟨hr, h⟩
  | _ + 1 => ⟨fun _ => h, by rw [hr]; simp⟩
theorem AnyBut.only {i : Nat} {fuel : Nat} {listed : Array Bool} {a : Act} {w : World} (hr : Region.ready md ops listed = [i]) (h : wpOp P ops Q i (fun a' w' => (i ≠ last → T w') ∧ AnyBut P md ops Q last T fuel (listed.setIfInBounds i true) a' w') a w) : AnyBut P md ops Q last T (fuel + 1) listed a w :=
  ⟨fun h0 => (by rw [hr] at h0; cases h0), fun j hj => (by rw [hr] at hj; obtain rfl := List.mem_singleton.1 hj; exact h)⟩
/-- Number 'last' waits for number i. -/
def waits (md : Region.Mode) (ops : Array Oper) (last i : Nat) : Bool := match ops[last]? with
  | some o => o.after.any fun e => Region.binds md e && e.on == i
  | none => false
theorem AnyBut.first {i : Nat} {oi : Oper} {v : Value} (hi : ops[i]? = some oi) (hsel : ∀ (j : Nat) (o : Oper) cs b, ops[j]? = some o → o.op ≠ .select cs b)
    (hQ : ∀ c a w, Q (.panic c) (a.put oi.dst v) w → Q (.panic c) a w) (hw8 : waits md ops last i = true) :
    ∀ (fuel : Nat) (listed : Array Bool) (a : Act) (w : World),
      (∀ j oj, ops[j]? = some oj → j ≠ i → listed.getD j true = false → (∀ e ∈ oj.after, Region.binds md e = true → e.on ≠ i) → oi.apart ops oj = true) →
      i ∈ Region.ready md ops listed → YieldsIf P ops T oi v a → T w → (i ≠ last) →
      AnyBut P md ops Q last T fuel (listed.setIfInBounds i true) (a.put oi.dst v) w → AnyBut P md ops Q last T (fuel + 1) listed a w := by
  intro fuel
  induction fuel with
  | zero =>
    intro listed a w _ hr hy hT _ H
    refine ⟨fun h => absurd hr (by rw [h]; simp), fun j hj => ?_⟩
    by_cases hji : j = i
    · subst hji; exact hy.wpOp hi hT ⟨fun _ => hT, H⟩
    · have h1 := ready_mono hj hji
      rw [H.1] at h1
      cases h1
  | succ fuel ih =>
    intro listed a w hfree hr hy hT hil H
    refine ⟨fun h => absurd hr (by rw [h]; simp), fun j hj => ?_⟩
    by_cases hji : j = i
    · subst hji; exact hy.wpOp hi hT ⟨fun _ => hT, H⟩
    · have h1 := H.2 j (ready_mono hj hji)
      obtain ⟨hjun, oj, hoj, hall⟩ := mem_ready.1 hj
      have hnot : ∀ e ∈ oj.after, Region.binds md e = true → e.on ≠ i := fun e he hb heq => by
        have g1 := hall e he hb
        have g0 := (mem_ready.1 hr).1
        rw [heq] at g1
        rcases Nat.lt_or_ge i listed.size with h' | h'
        · simp [h'] at g0 g1; rw [g0] at g1; cases g1
        · simp [Array.getElem?_eq_none h'] at g1
      have h2 := wpOp_putIf hoj (hfree j oj hoj hji hjun hnot) (fun cs b => hsel i oi cs b hi) (fun cs b => hsel j oj cs b hoj) hQ hy h1
      have hjl : (∀ w', (j ≠ last → T w') → T w') := fun w' h => by
        refine h fun e => ?_
        have q := hw8
        subst e
        unfold waits at q
        rw [hoj] at q
        obtain ⟨e, he, hb⟩ := Array.any_eq_true'.1 q
        rw [Bool.and_eq_true, beq_iff_eq] at hb
        exact hnot e he hb.1 hb.2
      have hfree' : ∀ k ok, ops[k]? = some ok → k ≠ i → (listed.setIfInBounds j true).getD k true = false → (∀ e ∈ ok.after, Region.binds md e = true → e.on ≠ i) → oi.apart ops ok = true := fun k ok hk hki hun hno => by
        refine hfree k ok hk hki ?_ hno
        by_cases hjk : j = k
        · subst hjk; exact hjun
        · rw [getD_set_ne true hjk] at hun; exact hun
      refine wpOp_mono (fun a' w' h3 => ⟨h3.2.1, ih (listed.setIfInBounds j true) a' w' hfree' (ready_mono hr (Ne.symm hji)) h3.1 (hjl w' h3.2.1) hil ?_⟩) h2
      rw [Array.setIfInBounds_comm _ _ hji]
      exact h3.2.2
theorem AnyBut.take {i : Nat} {oi : Oper} {v : Value} {fuel : Nat} {listed : Array Bool} {a : Act} {w : World} (hi : ops[i]? = some oi)
    (hs : Region.noSelect ops = true) (hf : Region.free md ops listed i = true) (hr : (Region.ready md ops listed).contains i = true) (hw8 : waits md ops last i = true) (hil : i ≠ last)
    (hQ : ∀ c a w, Q (.panic c) (a.put oi.dst v) w → Q (.panic c) a w) (hy : YieldsIf P ops T oi v a) (hT : T w)
    (h : AnyBut P md ops Q last T fuel (listed.setIfInBounds i true) (a.put oi.dst v) w) : AnyBut P md ops Q last T (fuel + 1) listed a w :=
  AnyBut.first hi (Region.noSelect_spec hs) hQ hw8 fuel listed a w (Region.free_spec hi hf) (by simpa using hr) hy hT hil h
end
end Go.Proofs.Ybulkcyk
