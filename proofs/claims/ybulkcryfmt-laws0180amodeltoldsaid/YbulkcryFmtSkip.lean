/-
  The scanner's block, and skipWhile (function 9) by its contract.
-/
import Derived.Test.YbulkcryFmtSmall
import Derived.Deep.LoopGhost
import Derived.Deep.QuietTactic
import Derived.BigQuiet
import Derived.OneCell
namespace Go.Proofs.YbulkcryFmt
open Go.RowKit

/-- The first place from k on whose byte P does not hold (or the end); f: how far to look. -/
def stopN (P : Int → Bool) (s : ByteArray) : Nat → Nat → Nat
  | 0, k => k
  | f + 1, k => if h : k < s.size then (if P ((s[k]'h).toNat : Int) then stopN P s f (k + 1) else k) else k
def stopAt (P : Int → Bool) (s : ByteArray) (k : Nat) : Nat := stopN P s (s.size - k) k

theorem stopAt_end (P : Int → Bool) (s : ByteArray) (k : Nat) (h : s.size ≤ k) : stopAt P s k = k := by
  unfold stopAt
  rw [show s.size - k = 0 by omega]
  rfl
theorem stopAt_no (P : Int → Bool) (s : ByteArray) (k : Nat) (h : k < s.size) (hp : P ((s[k]'h).toNat : Int) = false) : stopAt P s k = k := by
  unfold stopAt
  obtain ⟨m, hm⟩ : ∃ m, s.size - k = m + 1 := ⟨s.size - k - 1, by omega⟩
  rw [hm, stopN]
  simp [h, hp]
theorem stopAt_yes (P : Int → Bool) (s : ByteArray) (k : Nat) (h : k < s.size) (hp : P ((s[k]'h).toNat : Int) = true) : stopAt P s k = stopAt P s (k + 1) := by
  unfold stopAt
  obtain ⟨m, hm⟩ : ∃ m, s.size - k = m + 1 := ⟨s.size - k - 1, by omega⟩
  rw [hm, stopN, show s.size - (k + 1) = m by omega]
  simp [h, hp]
theorem stopN_le (P : Int → Bool) (s : ByteArray) (f : Nat) : ∀ k, k ≤ stopN P s f k ∧ (k ≤ s.size → stopN P s f k ≤ s.size) := by
  induction f with
  | zero => intro k; simp [stopN]
  | succ f ih =>
    intro k
    rw [stopN]
    split
    · split
      · have := ih (k + 1); omega
      · omega
    · omega
theorem stopAt_ge (P : Int → Bool) (s : ByteArray) (k : Nat) : k ≤ stopAt P s k := (stopN_le P s _ k).1
theorem stopAt_le (P : Int → Bool) (s : ByteArray) (k : Nat) (h : k ≤ s.size) : stopAt P s k ≤ s.size := (stopN_le P s _ k).2 h

/-- The scanner's block b in the world wr; beside it nothing of w has turned. -/
structure Sc (b : Nat) (s : ByteArray) (k : Nat) (pr : ByteArray) (w wr : World) : Prop where
  blk : wr.heap[b]? = some (.cells #[.string s, .int .i64 k, .string pr, .bool true] 31 (0, 0))
  os : wr.os = w.os
  tape : wr.tape = w.tape
  output : wr.output = w.output
  size : wr.heap.size = w.heap.size
  other : ∀ j, j ≠ b → wr.heap[j]? = w.heap[j]?

theorem Sc.c0 {b : Nat} {s : ByteArray} {k : Nat} {pr : ByteArray} {w wr : World} (h : Sc b s k pr w wr) : wr.cell? ⟨b, 0, none⟩ = some (.string s) := by simp [World.cell?, h.blk]
theorem Sc.c1 {b : Nat} {s : ByteArray} {k : Nat} {pr : ByteArray} {w wr : World} (h : Sc b s k pr w wr) : wr.cell? ⟨b, 1, none⟩ = some (.int .i64 k) := by simp [World.cell?, h.blk]
theorem Sc.c2 {b : Nat} {s : ByteArray} {k : Nat} {pr : ByteArray} {w wr : World} (h : Sc b s k pr w wr) : wr.cell? ⟨b, 2, none⟩ = some (.string pr) := by simp [World.cell?, h.blk]
theorem Sc.c3 {b : Nat} {s : ByteArray} {k : Nat} {pr : ByteArray} {w wr : World} (h : Sc b s k pr w wr) : wr.cell? ⟨b, 3, none⟩ = some (.bool true) := by simp [World.cell?, h.blk]
theorem Sc.fr {b : Nat} {s : ByteArray} {k : Nat} {pr : ByteArray} {w wr : World} (h : Sc b s k pr w wr) (o : Nat) : wr.frozen? ⟨b, o, none⟩ = false := by simp [World.frozen?, h.blk]
theorem Sc.trans {b : Nat} {s : ByteArray} {k k' : Nat} {pr pr' : ByteArray} {w wr wx : World} (h : Sc b s k pr w wr) (h' : Sc b s k' pr' wr wx) : Sc b s k' pr' w wx :=
  ⟨h'.blk, h'.os.trans h.os, h'.tape.trans h.tape, h'.output.trans h.output, h'.size.trans h.size, fun j hj => (h'.other j hj).trans (h.other j hj)⟩
theorem Sc.drewN {b : Nat} {s : ByteArray} {k : Nat} {pr : ByteArray} {w wr : World} (h : Sc b s k pr w wr) (n : Nat) : Sc b s k pr w (wr.drewN n) :=
  ⟨h.blk, h.os, h.tape, h.output, h.size, h.other⟩
theorem Sc.set1 {b : Nat} {s : ByteArray} {k : Nat} {pr : ByteArray} {w wr : World} (h : Sc b s k pr w wr) (k' : Nat) : Sc b s k' pr w (wr.setCell ⟨b, 1, none⟩ (.int .i64 k')) := by
  have hlt := lt_of_block h.blk
  have h' : wr.heap[b] = .cells #[.string s, .int .i64 k, .string pr, .bool true] 31 (0, 0) := by simpa [Array.getElem?_eq_getElem hlt] using h.blk
  refine ⟨?_, h.os, h.tape, h.output, ?_, fun j hj => ?_⟩
  · show (wr.heap.modify b _)[b]? = _
    rw [Array.getElem?_eq_getElem (by simpa using hlt), Array.getElem_modify_self, h']
    rfl
  · simpa [World.setCell] using h.size
  · rw [Below.heap_setCell _ _ _ _ hj]; exact h.other j hj
theorem Sc.set2 {b : Nat} {s : ByteArray} {k : Nat} {pr : ByteArray} {w wr : World} (h : Sc b s k pr w wr) (pr' : ByteArray) : Sc b s k pr' w (wr.setCell ⟨b, 2, none⟩ (.string pr')) := by
  have hlt := lt_of_block h.blk
  have h' : wr.heap[b] = .cells #[.string s, .int .i64 k, .string pr, .bool true] 31 (0, 0) := by simpa [Array.getElem?_eq_getElem hlt] using h.blk
  refine ⟨?_, h.os, h.tape, h.output, ?_, fun j hj => ?_⟩
  · show (wr.heap.modify b _)[b]? = _
    rw [Array.getElem?_eq_getElem (by simpa using hlt), Array.getElem_modify_self, h']
    rfl
  · simpa [World.setCell] using h.size
  · rw [Below.heap_setCell _ _ _ _ hj]; exact h.other j hj
theorem Sc.below {b : Nat} {s : ByteArray} {k : Nat} {pr : ByteArray} {w wr : World} (h : Sc b s k pr w wr) : Below b w wr :=
  ⟨h.os, h.tape, h.output, by rw [h.size]; exact Nat.le_refl _, fun j hj => h.other j (by omega)⟩

set_option maxHeartbeats 1600000 in
theorem skip10 (b : Nat) (s : ByteArray) (k : Nat) (pr : ByteArray) (w : World) (hs : s.size ≤ maxLen) (hk : k ≤ s.size) (hb : Sc b s k pr w w) :
    Calls Ybaf.prog 9 #[.pointer (some ⟨b, 0, none⟩), .func (.func 10) #[] #[]] w fun e w' => e = .returned (.tuple #[]) ∧ Sc b s (stopAt digB s k) pr w w' := by
  unfold maxLen at hs
  have HB : Hid (Sc b s k pr w w) := hb
  clear hb
  go_enter Ybaf.func9, Ybaf.ntmps9
  go_wp2
  go_loopg [] (s.size - k) (fun g wr => ∃ m : Nat, g = s.size - m ∧ m ≤ s.size ∧ stopAt digB s m = stopAt digB s k ∧ Sc b s m pr w wr)
  case atStart => exact ⟨k, rfl, hk, rfl, HB.out⟩
  case round =>
    obtain ⟨m, hg, hm, hst, hsc⟩ := hrel
    have HG : Hid (gk = s.size - m) := hg
    have HS : Hid (stopAt digB s m = stopAt digB s k) := hst
    have h0 := hsc.c0
    have h1 := hsc.c1
    have hf := hsc.fr 1
    have HC : Hid (Sc b s m pr w wr) := hsc
    clear hg hst hsc
    by_cases hlt : m < s.size
    · have hlt' : (m : Int) < (s.size : Int) := by omega
      cases hd : digB ((s[m]'hlt).toNat : Int)
      · have HN : Hid (stopAt digB s m = m) := stopAt_no _ _ _ hlt hd
        go_wp2
        go_quiet ((go_at_call 10; exact Calls.quiet_of_same (digit10 _ _)))
        go_wp2
        go_end0
        exact ⟨rfl, by rw [← HS.out, HN.out]; exact HC.out.drewN _⟩
      · have HN : Hid (stopAt digB s m = stopAt digB s (m + 1)) := stopAt_yes _ _ _ hlt hd
        go_wp2
        go_quiet ((go_at_call 10; exact Calls.quiet_of_same (digit10 _ _)))
        go_wp2
        go_roundg (s.size - (m + 1))
        case measure => rw [HG.out]; omega
        case rel => exact ⟨m + 1, rfl, by omega, by rw [← HN.out, HS.out], (HC.out.drewN _).set1 (m + 1)⟩
    · have hlt' : decide ((m : Int) < (s.size : Int)) = false := decide_eq_false (by omega)
      have HN : Hid (stopAt digB s m = m) := stopAt_end _ _ _ (by omega)
      go_wp2
      go_quiet (fail)
      go_wp2
      go_end0
      exact ⟨rfl, by rw [← HS.out, HN.out]; exact HC.out.drewN _⟩

set_option maxHeartbeats 1600000 in
theorem skip11 (b : Nat) (s : ByteArray) (k : Nat) (pr : ByteArray) (w : World) (hs : s.size ≤ maxLen) (hk : k ≤ s.size) (hb : Sc b s k pr w w) :
    Calls Ybaf.prog 9 #[.pointer (some ⟨b, 0, none⟩), .func (.func 11) #[] #[]] w fun e w' => e = .returned (.tuple #[]) ∧ Sc b s (stopAt wrdB s k) pr w w' := by
  unfold maxLen at hs
  have HB : Hid (Sc b s k pr w w) := hb
  clear hb
  go_enter Ybaf.func9, Ybaf.ntmps9
  go_wp2
  go_loopg [] (s.size - k) (fun g wr => ∃ m : Nat, g = s.size - m ∧ m ≤ s.size ∧ stopAt wrdB s m = stopAt wrdB s k ∧ Sc b s m pr w wr)
  case atStart => exact ⟨k, rfl, hk, rfl, HB.out⟩
  case round =>
    obtain ⟨m, hg, hm, hst, hsc⟩ := hrel
    have HG : Hid (gk = s.size - m) := hg
    have HS : Hid (stopAt wrdB s m = stopAt wrdB s k) := hst
    have h0 := hsc.c0
    have h1 := hsc.c1
    have hf := hsc.fr 1
    have HC : Hid (Sc b s m pr w wr) := hsc
    clear hg hst hsc
    by_cases hlt : m < s.size
    · have hlt' : (m : Int) < (s.size : Int) := by omega
      cases hd : wrdB ((s[m]'hlt).toNat : Int)
      · have HN : Hid (stopAt wrdB s m = m) := stopAt_no _ _ _ hlt hd
        go_wp2
        go_quiet ((go_at_call 11; exact Calls.quiet_of_same (word11 _ _)))
        go_wp2
        go_end0
        exact ⟨rfl, by rw [← HS.out, HN.out]; exact HC.out.drewN _⟩
      · have HN : Hid (stopAt wrdB s m = stopAt wrdB s (m + 1)) := stopAt_yes _ _ _ hlt hd
        go_wp2
        go_quiet ((go_at_call 11; exact Calls.quiet_of_same (word11 _ _)))
        go_wp2
        go_roundg (s.size - (m + 1))
        case measure => rw [HG.out]; omega
        case rel => exact ⟨m + 1, rfl, by omega, by rw [← HN.out, HS.out], (HC.out.drewN _).set1 (m + 1)⟩
    · have hlt' : decide ((m : Int) < (s.size : Int)) = false := decide_eq_false (by omega)
      have HN : Hid (stopAt wrdB s m = m) := stopAt_end _ _ _ (by omega)
      go_wp2
      go_quiet (fail)
      go_wp2
      go_end0
      exact ⟨rfl, by rw [← HS.out, HN.out]; exact HC.out.drewN _⟩

end Go.Proofs.YbulkcryFmt
