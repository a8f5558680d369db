/-
  What RecoveryOf holds in memory: maps of bools, of slices, of maps; and how each step of the walk hands it on.
-/
import Derived.Test.YbulkdaoMaps
import Derived.Test.YbulkdaoSpec
import Derived.Maps.AppendAt
namespace Go.Proofs.Ybulkdao
open Go.RowKit Go.ChangeMaps

/-- Whose a block is: which map's, at which key. -/
abbrev Cd := Nat × ByteArray × Int

theorem own_block {w : World} {base : Nat} {e : TypeId} {size : Nat} {v : Value} {n : Nat} {xs : List Value} (h : w.ownsRow base e size v n xs) {g : Nat} (hg : v.ownBlock = some g) : base ≤ g ∧ g < w.heap.size := by
  rcases h.2 with ⟨h0, _⟩ | ⟨g', cap, cur, hv, hb, hh, _⟩
  · rw [h0] at hg; simp [Value.ownBlock] at hg
  · rw [hv] at hg
    simp [Value.ownBlock] at hg
    subst hg
    exact ⟨hb, lt_of_block hh⟩

/-! A map of bools. -/
structure BoMap (b : Nat) (f : Int → Bool) (w : World) : Prop where
  ex : ∃ l : List (Int × Value), MapAt (Value.int .i64) b l w ∧ ∀ t, (getL (fun a b : Int => a == b) t l).getD (.bool false) = .bool (f t)
theorem BoMap.kept {b : Nat} {f : Int → Bool} {w w' : World} {row : Option Nat} (h : BoMap b f w) (hg : w.grownBy w' row) (hne : row ≠ some b) : BoMap b f w' := by
  obtain ⟨l, h1, h2⟩ := h.ex
  exact ⟨l, h1.kept hg hne, h2⟩
theorem BoMap.lt {b : Nat} {f : Int → Bool} {w : World} (h : BoMap b f w) : b < w.heap.size := by
  obtain ⟨l, h1, h2⟩ := h.ex
  exact h1.lt
theorem zero4 (w : World) : (zeroValue 4).run Yba.prog w = .ok (.bool false) w := by kernel_rfl
theorem BoMap.look {b : Nat} {f : Int → Bool} {w : World} (h : BoMap b f w) (t : Int) : (Instr.lookup 39 (.map (some b)) (.int .i64 t) false).run Yba.prog w = .ok (.bool (f t)) w := by
  obtain ⟨l, h1, h2⟩ := h.ex
  rw [← h2 t]
  exact h1.look keyI Yba.underlying39 (zero4 w) t
theorem BoMap.set {b : Nat} {f : Int → Bool} {w : World} (h : BoMap b f w) (t : Int) : ∃ w', (Instr.mapUpdate 39 (.map (some b)) (.int .i64 t) (.bool true)).run Yba.prog w = .ok () w' ∧ BoMap b (updI f t true) w' ∧ w.grownBy w' (some b) ∧ w'.heap.size = w.heap.size := by
  obtain ⟨l, h1, h2⟩ := h.ex
  obtain ⟨w', r1, r2, r3, r4⟩ := h1.put keyI Yba.underlying39 t (.bool true)
  refine ⟨w', r1, ⟨_, r2, fun x => ?_⟩, r3, r4⟩
  rw [getL_put keyI]
  unfold updI
  split <;> simp_all
theorem BoMap.made (w : World) : BoMap w.heap.size (fun _ => false) (w.alloc (.map #[] 0)) := ⟨[], MapAt.made w, fun _ => rfl⟩

/-! A map of slices. -/
structure SlMap {K X : Type} (dec : K → K → Bool) (encK : K → Value) (encX : X → Value) (e : TypeId) (b base : Nat) (code : K → Cd) (own : Nat → Cd) (F : K → List X) (w : World) : Prop where
  ex : ∃ l : List (K × Value), MapAt encK b l w ∧ ∀ k, w.ownsRow base e 1 ((getL dec k l).getD (.slice none 0 0)) (F k).length ((F k).map encX) ∧ ∀ g, ((getL dec k l).getD (.slice none 0 0)).ownBlock = some g → own g = code k

section
variable {K X : Type} {P : Program} {kt et : TypeId} {dec : K → K → Bool} {encK : K → Value} {encX : X → Value} {e : TypeId} {b base : Nat} {code : K → Cd} {own own' : Nat → Cd} {F : K → List X} {w w' : World}

theorem SlMap.lt (h : SlMap dec encK encX e b base code own F w) : b < w.heap.size := by
  obtain ⟨l, h1, h2⟩ := h.ex
  exact h1.lt
theorem SlMap.kept {row : Option Nat} (h : SlMap dec encK encX e b base code own F w) (hg : w.grownBy w' row) (hb : row ≠ some b) (hr : ∀ g, row = some g → g < base ∨ ∀ k, own g ≠ code k)
    (ho : ∀ g, base ≤ g → g < w.heap.size → (∃ k, own g = code k) → own' g = own g) : SlMap dec encK encX e b base code own' F w' := by
  obtain ⟨l, h1, h2⟩ := h.ex
  refine ⟨l, h1.kept hg hb, fun k => ?_⟩
  obtain ⟨h3, h4⟩ := h2 k
  refine ⟨h3.kept hg ?_, fun g hg' => ?_⟩
  · cases hv : ((getL dec k l).getD (.slice none 0 0)).ownBlock with
    | none => exact .inl rfl
    | some g =>
      right
      intro er
      have := own_block h3 hv
      rcases hr g er.symm with h5 | h5
      · omega
      · exact h5 k (h4 g hv)
  · have := own_block h3 hg'
    rw [ho g this.1 this.2 ⟨k, h4 g hg'⟩]
    exact h4 g hg'
/-- What lies at a key; and the way back. -/
theorem SlMap.at (E : KeyEnc P kt encK dec) {t : TypeId} (ht : P.underlying t = some (.map kt et)) (hz : ∀ w, (zeroValue et).run P w = .ok (.slice none 0 0) w) (hcode : ∀ k k', code k = code k' → k = k')
    (h : SlMap dec encK encX e b base code own F w) (k : K) :
    ∃ v, w.ownsRow base e 1 v (F k).length ((F k).map encX) ∧ (∀ g, v.ownBlock = some g → own g = code k) ∧
      (∀ w', w'.heap[b]? = w.heap[b]? → (Instr.lookup t (.map (some b)) (encK k) false).run P w' = .ok v w') ∧
      (∀ (w1 : World) (row : Option Nat), w.grownBy w1 row → (row = none ∨ row = v.ownBlock) → ∀ (v' : Value) (xs' : List X) (own' : Nat → Cd), w1.ownsRow base e 1 v' xs'.length (xs'.map encX) → (∀ g, v'.ownBlock = some g → own' g = code k) →
        (∀ g, base ≤ g → g < w.heap.size → own g ≠ code k → own' g = own g) → b < base →
        ∃ w2, (Instr.mapUpdate t (.map (some b)) (encK k) v').run P w1 = .ok () w2 ∧ SlMap dec encK encX e b base code own' (fun x => if dec x k then xs' else F x) w2 ∧ w1.grownBy w2 (some b) ∧ w2.heap.size = w1.heap.size) := by
  obtain ⟨l, h1, h2⟩ := h.ex
  refine ⟨(getL dec k l).getD (.slice none 0 0), (h2 k).1, (h2 k).2, fun w' hw' => ?_, ?_⟩
  · have : MapAt encK b l w' := by
      obtain ⟨es, c, p1, p2⟩ := h1.blk
      exact ⟨es, c, by rw [hw']; exact p1, p2⟩
    exact this.look E ht (hz w') k
  · intro w1 row hg hrow v' xs' own' hv' hc' ho hbb
    have hb1 : row ≠ some b := by
      rcases hrow with h | h
      · rw [h]; simp
      · intro e0
        have := (own_block (h2 k).1 (h ▸ e0)).1
        omega
    have h1' := h1.kept hg hb1
    obtain ⟨w2, r1, r2, r3, r4⟩ := h1'.put E ht k v'
    refine ⟨w2, r1, ⟨_, r2, fun x => ?_⟩, r3, r4⟩
    rw [getL_put E]
    cases hd : dec x k with
    | true =>
      have e0 := (E.eq x k).1 hd
      subst e0
      simp only [if_true, Option.getD_some]
      refine ⟨hv'.kept r3 ?_, fun g hg' => hc' g hg'⟩
      cases hvb : v'.ownBlock with
      | none => exact .inl rfl
      | some g =>
        right
        intro e0
        have := (own_block hv' hvb).1
        simp at e0
        omega
    | false =>
      simp only [Bool.false_eq_true, if_false]
      obtain ⟨h3, h4⟩ := h2 x
      have hne : x ≠ k := fun e0 => by rw [(E.eq x k).2 e0] at hd; cases hd
      refine ⟨(h3.kept hg ?_).kept r3 ?_, fun g hg' => ?_⟩
      · cases hv : ((getL dec x l).getD (.slice none 0 0)).ownBlock with
        | none => exact .inl rfl
        | some g =>
          right
          intro er
          rcases hrow with h | h
          · rw [h] at er; cases er
          · rw [h] at er
            have := (h2 k).2 g er.symm
            rw [h4 g hv] at this
            exact hne (hcode _ _ this)
      · cases hv : ((getL dec x l).getD (.slice none 0 0)).ownBlock with
        | none => exact .inl rfl
        | some g =>
          right
          intro e0
          have := (own_block h3 hv).1
          simp at e0
          omega
      · have := own_block h3 hg'
        rw [ho g this.1 this.2 (by rw [h4 g hg']; exact fun e0 => hne (hcode _ _ e0))]
        exact h4 g hg'
theorem SlMap.made (w : World) (base : Nat) : SlMap dec encK encX e w.heap.size base code own (fun _ => []) (w.alloc (.map #[] 0)) :=
  ⟨[], MapAt.made w, fun k => ⟨World.ownsRow_nil _ _ _ _, fun g hg => by simp [getL, Value.ownBlock] at hg⟩⟩
end

/-! The map of maps: each key's open writers. -/
def cO (k : ByteArray) : Cd := (1, k, 0)
def trues (l : List Int) : List (Int × Value) := l.map fun t => (t, .bool true)
structure OpMap (b base : Nat) (own : Nat → Cd) (opn : ByteArray → List Int) (w : World) : Prop where
  ex : ∃ l : List (ByteArray × Value), MapAt Value.string b l w ∧ ∀ k, ((getL (fun a b : ByteArray => a == b) k l).getD (.map none) = .map none ∧ opn k = []) ∨
    ∃ r, (getL (fun a b : ByteArray => a == b) k l).getD (.map none) = .map (some r) ∧ base ≤ r ∧ own r = cO k ∧ MapAt (Value.int .i64) r (trues (opn k)) w
theorem zero39 (w : World) : (zeroValue 39).run Yba.prog w = .ok (.map none) w := by kernel_rfl

section
variable {b base : Nat} {own own' : Nat → Cd} {opn : ByteArray → List Int} {w w' : World}
theorem OpMap.lt (h : OpMap b base own opn w) : b < w.heap.size := by
  obtain ⟨l, h1, h2⟩ := h.ex
  exact h1.lt
theorem OpMap.kept {row : Option Nat} (h : OpMap b base own opn w) (hg : w.grownBy w' row) (hb : row ≠ some b) (hr : ∀ g, row = some g → g < base ∨ ∀ k, own g ≠ cO k)
    (ho : ∀ g, base ≤ g → g < w.heap.size → (∃ k, own g = cO k) → own' g = own g) : OpMap b base own' opn w' := by
  obtain ⟨l, h1, h2⟩ := h.ex
  refine ⟨l, h1.kept hg hb, fun k => ?_⟩
  rcases h2 k with h3 | ⟨r, h3, h4, h5, h6⟩
  · exact .inl h3
  · refine .inr ⟨r, h3, h4, by rw [ho r h4 h6.lt ⟨k, h5⟩]; exact h5, h6.kept hg ?_⟩
    intro e
    rcases hr r e with h7 | h7
    · omega
    · exact h7 k h5
/-- What lies at a key: nil, and nobody; or a map, and the way back from a change of it. -/
theorem OpMap.at (h : OpMap b base own opn w) (k : ByteArray) :
    ∃ v, (∀ w', w'.heap[b]? = w.heap[b]? → (Instr.lookup 41 (.map (some b)) (.string k) false).run Yba.prog w' = .ok v w') ∧
      ((v = .map none ∧ opn k = []) ∨ ∃ r, v = .map (some r) ∧ base ≤ r ∧ own r = cO k ∧ MapAt (Value.int .i64) r (trues (opn k)) w ∧
        (∀ (w1 : World) (l' : List Int), w.grownBy w1 (some r) → MapAt (Value.int .i64) r (trues l') w1 → b < base → OpMap b base own (updS opn k l') w1)) := by
  obtain ⟨l, h1, h2⟩ := h.ex
  refine ⟨(getL (fun a b : ByteArray => a == b) k l).getD (.map none), fun w' hw' => ?_, ?_⟩
  · have : MapAt Value.string b l w' := by
      obtain ⟨es, c, p1, p2⟩ := h1.blk
      exact ⟨es, c, by rw [hw']; exact p1, p2⟩
    exact this.look keyS Yba.underlying41 (zero39 w') k
  · rcases h2 k with h3 | ⟨r, h3, h4, h5, h6⟩
    · exact .inl h3
    · refine .inr ⟨r, h3, h4, h5, h6, fun w1 l' hg hm hbb => ⟨l, h1.kept hg (by simp; omega), fun x => ?_⟩⟩
      by_cases e : x = k
      · subst e
        refine .inr ⟨r, h3, h4, h5, ?_⟩
        unfold updS
        rw [if_pos ((keyS.eq x x).2 rfl)]
        exact hm
      · have hf : updS opn k l' x = opn x := by
          unfold updS
          rw [if_neg (fun h => e ((keyS.eq x k).1 h))]
        rw [hf]
        rcases h2 x with h7 | ⟨r', h7, h8, h9, h10⟩
        · exact .inl h7
        · refine .inr ⟨r', h7, h8, h9, h10.kept hg ?_⟩
          intro e0
          simp at e0
          subst e0
          rw [h5] at h9
          simp [cO] at h9
          exact e h9.symm
/-- A new inner map is laid and stored. -/
theorem OpMap.make (h : OpMap b base own opn w) (k : ByteArray) (hk : opn k = []) (hbase : base ≤ w.heap.size) (hbb : b < base) :
    ∃ w2, (Instr.mapUpdate 41 (.map (some b)) (.string k) (.map (some w.heap.size))).run Yba.prog (w.alloc (.map #[] 0)) = .ok () w2 ∧
      OpMap b base (fun x => if x = w.heap.size then cO k else own x) opn w2 ∧ (w.alloc (.map #[] 0)).grownBy w2 (some b) ∧ w2.heap.size = w.heap.size + 1 ∧ (Instr.lookup 41 (.map (some b)) (.string k) false).run Yba.prog w2 = .ok (.map (some w.heap.size)) w2 := by
  obtain ⟨l, h1, h2⟩ := h.ex
  have hg := World.grownBy_alloc w (.map #[] 0) none
  obtain ⟨w2, r1, r2, r3, r4⟩ := (h1.kept hg (by simp)).put keyS Yba.underlying41 k (.map (some w.heap.size))
  refine ⟨w2, r1, ⟨_, r2, fun x => ?_⟩, r3, by rw [r4]; simp, by
    have := r2.look keyS Yba.underlying41 (zero39 w2) k
    rw [getL_put keyS, if_pos ((keyS.eq k k).2 rfl)] at this
    exact this⟩
  rw [getL_put keyS]
  by_cases e : x = k
  · subst e
    rw [if_pos ((keyS.eq x x).2 rfl)]
    refine .inr ⟨w.heap.size, rfl, hbase, by simp, ?_⟩
    rw [hk]
    exact (MapAt.made w).kept r3 (by simp; omega)
  · rw [if_neg (fun h => e ((keyS.eq x k).1 h))]
    rcases h2 x with h7 | ⟨r', h7, h8, h9, h10⟩
    · exact .inl h7
    · have hl := h10.lt
      refine .inr ⟨r', h7, h8, by rw [if_neg (by omega)]; exact h9, (h10.kept hg (by simp)).kept r3 ?_⟩
      simp; omega
theorem OpMap.made (w : World) (base : Nat) : OpMap w.heap.size base own (fun _ => []) (w.alloc (.map #[] 0)) :=
  ⟨[], MapAt.made w, fun _ => .inl ⟨rfl, rfl⟩⟩
end

theorem getL_trues (t : Int) (l : List Int) : (getL (fun a b : Int => a == b) t (trues l)).getD (.bool false) = .bool (l.contains t) := by
  induction l with
  | nil => rfl
  | cons a l ih =>
    simp only [trues, List.map_cons, getL, List.contains_cons]
    cases h : (t == a) with
    | true => simp
    | false => simpa [trues] using ih
theorem putL_trues (t : Int) (l : List Int) (h : l.contains t = false) : putL (fun a b : Int => a == b) t (.bool true) (trues l) = trues (l ++ [t]) := by
  induction l with
  | nil => rfl
  | cons a l ih =>
    simp only [List.contains_cons, Bool.or_eq_false_iff] at h
    simp only [trues, List.map_cons, putL, h.1, Bool.false_eq_true, if_false, List.cons_append]
    rw [show List.map (fun t => (t, Value.bool true)) l = trues l from rfl, ih h.2]
    rfl
theorem delL_trues (t : Int) (l : List Int) : delL (fun a b : Int => a == b) t (trues l) = trues (l.erase t) := by
  induction l with
  | nil => rfl
  | cons a l ih =>
    simp only [trues, List.map_cons, delL, List.erase_cons]
    by_cases h : t = a
    · subst h; simp
    · have h1 : (t == a) = false := by simpa using h
      have h2 : (a == t) = false := by simpa using fun e : a = t => h e.symm
      rw [h1, h2]
      simp only [Bool.false_eq_true, if_false, List.map_cons]
      rw [show List.map (fun t => (t, Value.bool true)) l = trues l from rfl, ih]
      rfl

end Go.Proofs.Ybulkdao
