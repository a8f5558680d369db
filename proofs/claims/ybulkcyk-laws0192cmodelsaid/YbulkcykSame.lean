/-
  zzs0192csame (function 8), walked: two lists of lists that hold the same answer true.
-/
import Derived.Test.YbulkcykLib
namespace Go.Proofs.Ybulkcyk
open Go.RowKit
set_option linter.unusedSimpArgs false

/-- The slice at p reads as a list of lists. -/
def LLR (w : World) (p : Option Addr) (L : List (List Nat)) : Prop := 0 < L.length → ∃ g, p = some ⟨g, 0, none⟩ ∧ ∀ i, i < L.length → ∃ q c, w.cell? ⟨g, i, none⟩ = some (.slice q (L.getD i []).length c) ∧ SlR w q (L.getD i [])
theorem LLR.drewN {w : World} {p : Option Addr} {L : List (List Nat)} (h : LLR w p L) (n : Nat) : LLR (w.drewN n) p L := h

set_option maxRecDepth 10000 in
set_option maxHeartbeats 4000000 in
theorem same8 (p1 p2 : Option Addr) (c1 c2 : Nat) (L : List (List Nat)) (w : World) (hl : L.length ≤ maxLen) (hll : ∀ i, (L.getD i []).length ≤ maxLen) (h1 : LLR w p1 L) (h2 : LLR w p2 L) : Calls Yba.prog 8 #[.slice p1 L.length c1, .slice p2 L.length c2] w fun e w' => e = .returned (.bool true) ∧ ∃ n, w' = w.drewN n := by
  have H1 : Hid (LLR w p1 L) := h1
  have H2 : Hid (LLR w p2 L) := h2
  have HLL : Hid (∀ i, (L.getD i []).length ≤ maxLen) := hll
  have hlm : (L.length : Int) ≤ 9223372036854775807 := by unfold maxLen at hl; omega
  have hne : ((L.length : Int) != (L.length : Int)) = false := by simp
  clear h1 h2 hll
  go_enter Yba.func8, Yba.ntmps8
  go_wp2_with fail
  go_loopg [14] L.length (fun gn kv wr => ∃ i m : Nat, gn = L.length - i ∧ i ≤ L.length ∧ kv = iv i ∧ w.drewN m = wr)
  case atStart => exact ⟨0, 0, rfl, Nat.zero_le _, rfl, rfl⟩
  case round =>
    obtain ⟨i, m, hgi, hin, rfl, rfl⟩ := hrel
    have HGI : Hid (gk = L.length - i) := hgi
    clear hgi
    by_cases hi1 : i < L.length
    · have hi1' : (i : Int) < (L.length : Int) := by omega
      obtain ⟨g1, rfl, hg1⟩ := H1.out (by omega)
      obtain ⟨g2, rfl, hg2⟩ := H2.out (by omega)
      obtain ⟨q1, k1, a1, s1⟩ := hg1 i hi1
      obtain ⟨q2, k2, a2, s2⟩ := hg2 i hi1
      have A1 : Hid (w.cell? ⟨g1, i, none⟩ = some (.slice q1 (L.getD i []).length k1)) := a1
      have A2 : Hid (w.cell? ⟨g2, i, none⟩ = some (.slice q2 (L.getD i []).length k2)) := a2
      have S1 : Hid (SlR w q1 (L.getD i [])) := s1
      have S2 : Hid (SlR w q2 (L.getD i [])) := s2
      have hlx : (L.getD i []).length ≤ maxLen := HLL.out i
      generalize L.getD i [] = l at *
      have hlx' : (l.length : Int) ≤ 9223372036854775807 := by unfold maxLen at hlx; omega
      have hne2 : ((l.length : Int) != (l.length : Int)) = false := by simp
      clear hg1 hg2 s1 s2
      go_wp2_with fail
      go_quiet (fail)
      go_wp2_with fail
      clear a1 a2
      go_loopg [33] l.length (fun gn kv wr => ∃ j m2 : Nat, gn = l.length - j ∧ j ≤ l.length ∧ kv = iv j ∧ w.drewN m2 = wr)
      case atStart => exact ⟨0, _, rfl, Nat.zero_le _, rfl, rfl⟩
      case round =>
        obtain ⟨j, m2, hgj, hjn, rfl, rfl⟩ := hrel
        have HGJ : Hid (gk = l.length - j) := hgj
        clear hgj
        by_cases hj1 : j < l.length
        · have hj1' : (j : Int) < (l.length : Int) := by omega
          obtain ⟨r1, o1, rfl, hr1⟩ := S1.out (by omega)
          obtain ⟨r2, o2, rfl, hr2⟩ := S2.out (by omega)
          have d1 : w.cell? ⟨r1, o1 + j, none⟩ = some (iv (l.getD j 0)) := hr1 j hj1
          have d2 : w.cell? ⟨r2, o2 + j, none⟩ = some (iv (l.getD j 0)) := hr2 j hj1
          have b1 : w.cell? ⟨g1, i, none⟩ = some (.slice (some ⟨r1, o1, none⟩) l.length k1) := A1.out
          have b2 : w.cell? ⟨g2, i, none⟩ = some (.slice (some ⟨r2, o2, none⟩) l.length k2) := A2.out
          generalize l.getD j 0 = y at *
          have hne3 : ((y : Int) != (y : Int)) = false := by simp
          clear hr1 hr2
          go_wp2_with fail
          go_quiet (fail)
          clear b1 b2 d1 d2
          go_wp2_with fail
          go_roundg (l.length - (j + 1))
          case measure => rw [HGJ.out]; omega
          case rel => exact ⟨j + 1, _, rfl, by omega, by go_num, rfl⟩
        · obtain rfl : j = l.length := by omega
          go_wp2_with fail
          go_roundg (L.length - (i + 1))
          case measure => rw [HGI.out]; omega
          case rel => exact ⟨i + 1, _, rfl, by omega, by go_num, rfl⟩
    · go_wp2_with fail
      go_ret
      exact ⟨rfl, _, rfl⟩
end Go.Proofs.Ybulkcyk
