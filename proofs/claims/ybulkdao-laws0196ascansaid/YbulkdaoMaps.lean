/-
  A map of the call's own, by the list of its entries: keys of one plain kind (K, written as values by 'enc').
-/
import Derived.Test.YbulkdaoRows
import Derived.WalkKit
import Derived.WalkSpells
import Derived.MapKept
import Derived.ChangeMaps5
import Derived.Maps.OwnSet
import Derived.Deep.QuietTactic
import Derived.BigQuiet
namespace Go.Proofs.Ybulkdao
open Go.RowKit Go.ChangeMaps

/-- What a kind of keys owes: two are told apart by a look; a key may be a key; the key that stays is the key. -/
structure KeyEnc {K : Type} (P : Program) (kt : TypeId) (enc : K → Value) (dec : K → K → Bool) : Prop where
  und : ∃ d, P.underlying kt = some d ∧ ∀ a b, Instr.sameNow d (enc a) (enc b) = some (dec a b)
  bits : ∀ a, Instr.sameBits 10000 (enc a) (enc a) = true
  ok : ∀ (e : Bool) (a : K) (w : World), (Instr.checkKey e 10000 kt (enc a)).run P w = .ok () w
  eq : ∀ a b, dec a b = true ↔ a = b

section
variable {K : Type} {P : Program} {kt : TypeId} {enc : K → Value} {dec : K → K → Bool}

/-- What the list holds at k. -/
def getL (dec : K → K → Bool) (k : K) : List (K × Value) → Option Value
  | [] => none
  | p :: l => if dec k p.1 then some p.2 else getL dec k l
/-- Where k stands. -/
def posL (dec : K → K → Bool) (k : K) : List (K × Value) → Option Nat
  | [] => none
  | p :: l => if dec k p.1 then some 0 else (posL dec k l).map (· + 1)
def putL (dec : K → K → Bool) (k : K) (v : Value) : List (K × Value) → List (K × Value)
  | [] => [(k, v)]
  | p :: l => if dec k p.1 then (k, v) :: l else p :: putL dec k v l
def delL (dec : K → K → Bool) (k : K) : List (K × Value) → List (K × Value)
  | [] => []
  | p :: l => if dec k p.1 then l else p :: delL dec k l

theorem findNow_eq (d : TypeDesc) (h : ∀ a b, Instr.sameNow d (enc a) (enc b) = some (dec a b)) (k : K) (l : List (K × Value)) (es : List MapEntry) (n : Nat)
    (he : es.map (fun e => (e.key, e.val)) = l.map (fun p => (enc p.1, p.2))) :
    Instr.findNow d (enc k) es n = some ((posL dec k l).bind fun i => (getL dec k l).map fun v => (n + i, v)) := by
  induction l generalizing es n with
  | nil =>
    cases es with
    | nil => rfl
    | cons e es => simp at he
  | cons p l ih =>
    cases es with
    | nil => simp at he
    | cons e es =>
      simp only [List.map_cons, List.cons.injEq, Prod.mk.injEq] at he
      obtain ⟨⟨h1, h2⟩, h3⟩ := he
      unfold Instr.findNow
      rw [h1, h]
      cases hd : dec k p.1 with
      | true => simp [getL, posL, hd, h2]
      | false =>
        simp only [getL, posL, hd]
        rw [ih es (n + 1) h3]
        cases hp : posL dec k l with
        | none => simp
        | some i =>
          cases hg : getL dec k l with
          | none => simp
          | some v => simp; omega

theorem posL_get (k : K) (l : List (K × Value)) : (posL dec k l = none ∧ getL dec k l = none) ∨ ∃ i v, posL dec k l = some i ∧ getL dec k l = some v ∧ i < l.length := by
  induction l with
  | nil => exact .inl ⟨rfl, rfl⟩
  | cons p l ih =>
    cases hd : dec k p.1 with
    | true => exact .inr ⟨0, p.2, by simp [posL, hd], by simp [getL, hd], by simp⟩
    | false =>
      rcases ih with ⟨h1, h2⟩ | ⟨i, v, h1, h2, h3⟩
      · exact .inl ⟨by simp [posL, hd, h1], by simp [getL, hd, h2]⟩
      · exact .inr ⟨i + 1, v, by simp [posL, hd, h1], by simp [getL, hd, h2], by simp; omega⟩

theorem putL_none (k : K) (v : Value) (l : List (K × Value)) (h : posL dec k l = none) : putL dec k v l = l ++ [(k, v)] := by
  induction l with
  | nil => rfl
  | cons p l ih =>
    cases hd : dec k p.1 with
    | true => simp [posL, hd] at h
    | false => simp [posL, hd] at h; simp [putL, hd, ih h]
theorem putL_some (k : K) (v : Value) (l : List (K × Value)) (i : Nat) (h : posL dec k l = some i) : putL dec k v l = l.set i (k, v) := by
  induction l generalizing i with
  | nil => simp [posL] at h
  | cons p l ih =>
    cases hd : dec k p.1 with
    | true => simp [posL, hd] at h; subst h; simp [putL, hd]
    | false =>
      simp [posL, hd] at h
      obtain ⟨j, hj, rfl⟩ := h
      simp [putL, hd, ih j hj]
theorem delL_none (k : K) (l : List (K × Value)) (h : posL dec k l = none) : delL dec k l = l := by
  induction l with
  | nil => rfl
  | cons p l ih =>
    cases hd : dec k p.1 with
    | true => simp [posL, hd] at h
    | false => simp [posL, hd] at h; simp [delL, hd, ih h]
theorem delL_some (k : K) (l : List (K × Value)) (i : Nat) (h : posL dec k l = some i) : delL dec k l = l.eraseIdx i := by
  induction l generalizing i with
  | nil => simp [posL] at h
  | cons p l ih =>
    cases hd : dec k p.1 with
    | true => simp [posL, hd] at h; subst h; simp [delL, hd]
    | false =>
      simp [posL, hd] at h
      obtain ⟨j, hj, rfl⟩ := h
      simp [delL, hd, ih j hj]
theorem posL_key (E : KeyEnc P kt enc dec) (k : K) (l : List (K × Value)) (i : Nat) (h : posL dec k l = some i) : ∃ v, l[i]? = some (k, v) := by
  induction l generalizing i with
  | nil => simp [posL] at h
  | cons p l ih =>
    cases hd : dec k p.1 with
    | true =>
      simp [posL, hd] at h
      subst h
      have := (E.eq k p.1).1 hd
      exact ⟨p.2, by simp [this]⟩
    | false =>
      simp [posL, hd] at h
      obtain ⟨j, hj, rfl⟩ := h
      obtain ⟨v, hv⟩ := ih j hj
      exact ⟨v, by simpa using hv⟩

theorem getL_put (E : KeyEnc P kt enc dec) (k k' : K) (v : Value) (l : List (K × Value)) : getL dec k' (putL dec k v l) = if dec k' k then some v else getL dec k' l := by
  induction l with
  | nil => simp [putL, getL]
  | cons p l ih =>
    cases hd : dec k p.1 with
    | true =>
      have e := (E.eq k p.1).1 hd
      simp only [putL, hd, if_true, getL]
      rw [← e]
      split <;> rfl
    | false =>
      simp only [putL, hd, Bool.false_eq_true, if_false, getL]
      rw [ih]
      cases h2 : dec k' p.1 with
      | true =>
        have e := (E.eq k' p.1).1 h2
        have : dec k' k = false := by
          rw [Bool.eq_false_iff]
          intro h3
          have e3 := (E.eq k' k).1 h3
          rw [← e3, e] at hd
          rw [(E.eq p.1 p.1).2 rfl] at hd
          cases hd
        simp [this]
      | false => simp

/-- Block b is the map whose entries are l. -/
structure MapAt (enc : K → Value) (b : Nat) (l : List (K × Value)) (w : World) : Prop where
  blk : ∃ es clock, w.heap[b]? = some (.map es clock) ∧ es.toList.map (fun e => (e.key, e.val)) = l.map (fun p => (enc p.1, p.2))

theorem MapAt.lt {b : Nat} {l : List (K × Value)} {w : World} (h : MapAt enc b l w) : b < w.heap.size := by
  obtain ⟨es, c, h1, _⟩ := h.blk
  exact lt_of_block h1
theorem MapAt.made (w : World) : MapAt enc w.heap.size [] (w.alloc (.map #[] 0)) := by
  refine ⟨#[], 0, ?_, rfl⟩
  show (w.heap.push _)[w.heap.size]? = _
  simp
theorem MapAt.kept {b : Nat} {l : List (K × Value)} {w w' : World} {row : Option Nat} (h : MapAt enc b l w) (hg : w.grownBy w' row) (hne : row ≠ some b) : MapAt enc b l w' := by
  obtain ⟨es, c, h1, h2⟩ := h.blk
  exact ⟨es, c, by rw [hg.block b (lt_of_block h1) (fun e => hne e.symm)]; exact h1, h2⟩
theorem MapAt.drewN {b : Nat} {l : List (K × Value)} {w : World} (h : MapAt enc b l w) (n : Nat) : MapAt enc b l (w.drewN n) := ⟨h.blk⟩

theorem MapAt.find {b : Nat} {l : List (K × Value)} {w : World} (E : KeyEnc P kt enc dec) (_h : MapAt enc b l w) (k : K) (es : Array MapEntry) (he : es.toList.map (fun e => (e.key, e.val)) = l.map (fun p => (enc p.1, p.2))) :
    (Instr.findKey kt (enc k) es.toList).run P w = .ok ((posL dec k l).bind fun i => (getL dec k l).map fun v => (i, v)) w := by
  obtain ⟨d, hd, hs⟩ := E.und
  have := findNow_eq d hs k l es.toList 0 he
  simp only [Nat.zero_add] at this
  simp [Instr.findKey, run_underlying hd, this]

/-- 'm[k]'. -/
theorem MapAt.look {b : Nat} {l : List (K × Value)} {w : World} (E : KeyEnc P kt enc dec) (h : MapAt enc b l w) {t et : TypeId} (ht : P.underlying t = some (.map kt et)) {z : Value} (hz : (zeroValue et).run P w = .ok z w) (k : K) :
    (Instr.lookup t (.map (some b)) (enc k) false).run P w = .ok ((getL dec k l).getD z) w := by
  obtain ⟨es, c, h1, h2⟩ := h.blk
  have hf := h.find E k es h2
  rcases posL_get (dec := dec) k l with ⟨p1, p2⟩ | ⟨i, v, p1, p2, p3⟩
  · rw [p1] at hf
    simp [Instr.lookup, run_underlying ht, MapKept.run_getObj_map h1, E.ok, hf, hz, p2, Result.andThen]
  · rw [p1, p2] at hf
    simp [Instr.lookup, run_underlying ht, MapKept.run_getObj_map h1, E.ok, hf, p2, Result.andThen]
theorem look_nil (E : KeyEnc P kt enc dec) {w : World} {t et : TypeId} (ht : P.underlying t = some (.map kt et)) {z : Value} (hz : (zeroValue et).run P w = .ok z w) (k : K) :
    (Instr.lookup t (.map none) (enc k) false).run P w = .ok z w := by
  obtain ⟨d, hd, hs⟩ := E.und
  simp [Instr.lookup, run_underlying ht, E.ok, Instr.findKey, run_underlying hd, Instr.findNow, hz, Result.andThen]

theorem map_modify {α β : Type} (f : α → β) (g : α → α) (l : List α) (i : Nat) (b : β) (h : ∀ a, l[i]? = some a → f (g a) = b) : (l.modify i g).map f = (l.map f).set i b := by
  induction l generalizing i with
  | nil => simp
  | cons a l ih =>
    cases i with
    | zero => simp [h a (by simp)]
    | succ i => simp [ih i (fun a ha => h a (by simpa using ha))]

/-- 'm[k] = v'. -/
theorem MapAt.put {b : Nat} {l : List (K × Value)} {w : World} (E : KeyEnc P kt enc dec) (h : MapAt enc b l w) {t et : TypeId} (ht : P.underlying t = some (.map kt et)) (k : K) (v : Value) :
    ∃ w', (Instr.mapUpdate t (.map (some b)) (enc k) v).run P w = .ok () w' ∧ MapAt enc b (putL dec k v l) w' ∧ w.grownBy w' (some b) ∧ w'.heap.size = w.heap.size := by
  obtain ⟨es, c, h1, h2⟩ := h.blk
  have hf := h.find E k es h2
  rcases posL_get (dec := dec) k l with ⟨p1, p2⟩ | ⟨i, v0, p1, p2, p3⟩
  · rw [p1] at hf
    refine ⟨setBlock w b (.map (es.push { key := enc k, val := v, born := c }) (c + 1)), ?_, ⟨_, _, heap_setBlock_same h1 _, ?_⟩, ⟨rfl, rfl, rfl, by simp [setBlock], fun i _ hi => heap_setBlock_other h1 _ (fun e => hi (by rw [e]))⟩, by simp [setBlock]⟩
    · simp [Instr.mapUpdate, run_underlying ht, MapKept.run_getObj_map h1, E.ok, hf, MapKept.run_setObj_map _ h1, Result.andThen, setBlock]
    · rw [putL_none k v l p1]
      simp [h2]
  · rw [p1, p2] at hf
    obtain ⟨v1, hk⟩ := posL_key E k l i p1
    have hlen : es.size = l.length := by have := congrArg List.length h2; simpa using this
    have hi : i < es.size := by omega
    have hkey : es[i].key = enc k := by
      have := congrArg (fun q => q[i]?) h2
      simp [hk, List.getElem?_map, Array.getElem?_toList, Array.getElem?_eq_getElem hi] at this
      exact this.1
    have hst : (Instr.keyThatStays (((es[i]?).map (·.key)).getD (enc k)) (enc k)).run P w = .ok (enc k) w := by
      rw [Array.getElem?_eq_getElem hi]
      simp [Instr.keyThatStays, hkey, E.bits]
    refine ⟨setBlock w b (.map (es.modify i fun e => { e with key := enc k, val := v }) c), ?_, ⟨_, _, heap_setBlock_same h1 _, ?_⟩, ⟨rfl, rfl, rfl, by simp [setBlock], fun i _ hi => heap_setBlock_other h1 _ (fun e => hi (by rw [e]))⟩, by simp [setBlock]⟩
    · simp [Instr.mapUpdate, run_underlying ht, MapKept.run_getObj_map h1, E.ok, hf, hst, MapKept.run_setObj_map _ h1, Result.andThen, setBlock]
    · rw [putL_some k v l i p1, Array.toList_modify, map_modify (fun e : MapEntry => (e.key, e.val)) (fun e : MapEntry => { e with key := enc k, val := v }) es.toList i (enc k, v) (fun a _ => rfl), h2, List.map_set]

/-- 'delete(m, k)'. -/
theorem MapAt.del {b : Nat} {l : List (K × Value)} {w : World} (E : KeyEnc P kt enc dec) (h : MapAt enc b l w) {t et : TypeId} (ht : P.underlying t = some (.map kt et)) (k : K) (ty : TypeId) :
    ∃ w', (Builtin.delete_ #[t, kt] ty #[.map (some b), enc k]).run P w = .ok (.tuple #[]) w' ∧ MapAt enc b (delL dec k l) w' ∧ w.grownBy w' (some b) ∧ w'.heap.size = w.heap.size := by
  obtain ⟨es, c, h1, h2⟩ := h.blk
  have hf := h.find E k es h2
  rcases posL_get (dec := dec) k l with ⟨p1, p2⟩ | ⟨i, v0, p1, p2, p3⟩
  · rw [p1] at hf
    refine ⟨setBlock w b (.map es c), ?_, ⟨_, _, heap_setBlock_same h1 _, ?_⟩, ⟨rfl, rfl, rfl, by simp [setBlock], fun i _ hi => heap_setBlock_other h1 _ (fun e => hi (by rw [e]))⟩, by simp [setBlock]⟩
    · simp [Builtin.delete_, run_underlying ht, MapKept.run_getObj_map h1, E.ok, hf, MapKept.run_setObj_map _ h1, Result.andThen, setBlock]
    · rw [delL_none k l p1]; exact h2
  · rw [p1, p2] at hf
    have hlen : es.size = l.length := by have := congrArg List.length h2; simpa using this
    have hi : i < es.size := by omega
    refine ⟨setBlock w b (.map (es.eraseIdxIfInBounds i) c), ?_, ⟨_, _, heap_setBlock_same h1 _, ?_⟩, ⟨rfl, rfl, rfl, by simp [setBlock], fun i _ hi => heap_setBlock_other h1 _ (fun e => hi (by rw [e]))⟩, by simp [setBlock]⟩
    · simp [Builtin.delete_, run_underlying ht, MapKept.run_getObj_map h1, E.ok, hf, MapKept.run_setObj_map _ h1, Result.andThen, setBlock]
    · rw [delL_some k l i p1, Array.eraseIdxIfInBounds, dif_pos hi, Array.toList_eraseIdx, map_eraseIdx, h2, ← map_eraseIdx]

/-- 'len(m)'. -/
theorem MapAt.len {b : Nat} {l : List (K × Value)} {w : World} (h : MapAt enc b l w) {t et : TypeId} (ht : P.underlying t = some (.map kt et)) (ty : TypeId) :
    (Builtin.len_ #[t] ty #[.map (some b)]).run P w = .ok (.int .i64 (l.length : Nat)) w := by
  obtain ⟨es, c, h1, h2⟩ := h.blk
  have hlen : es.size = l.length := by have := congrArg List.length h2; simpa using this
  simp [Builtin.len_, run_underlying ht, MapKept.run_getObj_map h1, goInt, hlen]
theorem len_nilMap {w : World} {t et : TypeId} (ht : P.underlying t = some (.map kt et)) (ty : TypeId) : (Builtin.len_ #[t] ty #[.map none]).run P w = .ok (.int .i64 0) w := by
  simp [Builtin.len_, run_underlying ht, goInt]
end

/-- Keys that are ints. -/
theorem keyI : KeyEnc Yba.prog 3 (Value.int .i64) (fun a b : Int => a == b) :=
  ⟨⟨_, Yba.underlying3, fun a b => by simp [Instr.sameNow]⟩, fun a => by simp [Instr.sameBits], fun e a w => by
    show (Instr.checkKey e (9999 + 1) 3 (.int .i64 a)).run _ _ = _
    rw [Instr.checkKey]
    simp [run_underlying Yba.underlying3], fun a b => by simp⟩
/-- Keys that are strings. -/
theorem keyS : KeyEnc Yba.prog 9 Value.string (fun a b : ByteArray => a == b) :=
  ⟨⟨_, Yba.underlying9, fun a b => by simp [Instr.sameNow]⟩, fun a => by simp [Instr.sameBits, (MapKept.bytes_beq a a).2 rfl], fun e a w => by
    show (Instr.checkKey e (9999 + 1) 9 (.string a)).run _ _ = _
    rw [Instr.checkKey]
    simp [run_underlying Yba.underlying9], fun a b => MapKept.bytes_beq a b⟩

end Go.Proofs.Ybulkdao
