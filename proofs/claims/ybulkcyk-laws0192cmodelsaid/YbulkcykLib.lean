/-
  slices.Contains, slices.Index, slices.Clone at []int (functions 16, 21, 19), walked.
-/
import Derived.Test.YbulkcykState2
import Derived.WalkSpells
import Derived.Lib.Walk
import Derived.Lib.Slices
namespace Go.Proofs.Ybulkcyk
open Go.RowKit

theorem Yba.info3 : (Yba.prog.info? 3).map (fun i => (i.zero, i.size, i.bytes)) = some (some (.int .i64 0), 1, 8) := by kernel_rfl
theorem Yba.info4 : (Yba.prog.info? 4).map (fun i => (i.zero, i.size, i.bytes)) = some (some (.bool false), 1, 1) := by kernel_rfl
theorem Yba.info26 : (Yba.prog.info? 26).map (fun i => (i.zero, i.size, i.bytes)) = some (some (.slice none 0 0), 1, 24) := by kernel_rfl
theorem Yba.info41 : (Yba.prog.info? 41).map (fun i => (i.zero, i.size, i.bytes)) = some (some (.agg #[.slice none 0 0, .int .i64 0]), 2, 32) := by kernel_rfl

/-- The slice at p reads as l. -/
def SlR (w : World) (p : Option Addr) (l : List Nat) : Prop := 0 < l.length → ∃ g o, p = some ⟨g, o, none⟩ ∧ ∀ i, i < l.length → w.cell? ⟨g, o + i, none⟩ = some (iv (l.getD i 0))

set_option maxHeartbeats 800000 in
theorem index21 (p : Option Addr) (l : List Nat) (c x : Nat) (w : World) (hl : l.length ≤ maxLen) (h : SlR w p l) : Calls Yba.prog 21 #[.slice p l.length c, iv x] w fun e w' => (∃ z : Int, e = .returned (.int .i64 z) ∧ (0 ≤ z ↔ x ∈ l)) ∧ w = w' := by
  have HS : Hid (SlR w p l) := h
  have hlm : (l.length : Int) ≤ 9223372036854775807 := by unfold maxLen at hl; omega
  clear h
  go_enter Yba.func21, Yba.ntmps21
  go_wp2_with fail
  go_loopg [8] l.length (fun gn iv' wr => ∃ i : Nat, gn = l.length - i ∧ i ≤ l.length ∧ iv' = iv i ∧ (∀ j, j < i → l.getD j 0 ≠ x) ∧ w = wr)
  case atStart => exact ⟨0, rfl, Nat.zero_le _, rfl, fun j hj => by omega, rfl⟩
  case round =>
    obtain ⟨i, hgk, hi, rfl, hno, rfl⟩ := hrel
    have HGK : Hid (gk = l.length - i) := hgk
    have HNO : Hid (∀ j, j < i → l.getD j 0 ≠ x) := hno
    clear hgk hno
    by_cases hlt : i < l.length
    · have hlt' : (i : Int) < (l.length : Int) := by omega
      obtain ⟨g, o, rfl, hc⟩ := HS.out (by omega)
      have hci := hc i hlt
      clear hc
      generalize hy : l.getD i 0 = y at hci
      have HY : Hid (l.getD i 0 = y) := hy
      clear hy
      by_cases he : y = x
      · subst he
        have HM : Hid (y ∈ l) := by
          show y ∈ l
          rw [← HY.out, List.getD_eq_getElem?_getD, List.getElem?_eq_getElem hlt]
          exact List.getElem_mem hlt
        go_wp2_with fail
        go_ret
        exact ⟨⟨_, rfl, ⟨fun _ => HM.out, fun _ => by omega⟩⟩, rfl⟩
      · have he' : ((x : Int) == (y : Int)) = false := by rw [beq_eq_false_iff_ne]; omega
        have HE : Hid (l.getD i 0 ≠ x) := by show l.getD i 0 ≠ x; rw [HY.out]; exact he
        go_wp2_with fail
        go_roundg (l.length - (i + 1))
        case measure => rw [HGK.out]; omega
        case rel =>
          refine ⟨i + 1, rfl, by omega, by go_num, fun j hj => ?_, rfl⟩
          by_cases e : j = i
          · subst e; exact HE.out
          · exact HNO.out j (by omega)
    · go_wp2_with fail
      go_ret
      refine ⟨⟨_, rfl, ⟨fun h => by omega, fun hm => ?_⟩⟩, rfl⟩
      exfalso
      obtain ⟨j, hj, e⟩ := List.getElem_of_mem hm
      exact HNO.out j (by omega) (by rw [List.getD_eq_getElem?_getD, List.getElem?_eq_getElem hj]; exact e)

theorem contains16 (p : Option Addr) (l : List Nat) (c x : Nat) (w : World) (hl : l.length ≤ maxLen) (h : SlR w p l) : Calls Yba.prog 16 #[.slice p l.length c, iv x] w fun e w' => e = .returned (.bool (l.contains x)) ∧ w = w' := by
  have HS : Hid (SlR w p l) := h
  clear h
  go_enter Yba.func16, Yba.ntmps16
  go_wp2_with fail
  refine (index21 p l c x w hl HS.out).mono ?_
  rintro e w1 ⟨⟨z, rfl, hz⟩, rfl⟩
  have HZ : Hid (decide (0 ≤ z) = l.contains x) := by
    show decide (0 ≤ z) = l.contains x
    rw [Bool.eq_iff_iff, decide_eq_true_eq, hz, List.contains_eq_mem, decide_eq_true_eq]
  clear hz
  go_wp2
  go_ret
  refine ⟨?_, rfl⟩
  rw [← HZ.out]
  rfl

set_option maxHeartbeats 800000 in
theorem clone19 (p : Option Addr) (l : List Nat) (c : Nat) (w : World) (h0 : 0 < l.length) (hl : l.length ≤ 1000000) (h : SlR w p l) : Calls Yba.prog 19 #[.slice p l.length c] w fun e w' => ∃ g cap : Nat, e = .returned (.slice (some ⟨g, 0, none⟩) l.length cap) ∧ w'.ownsRow w.heap.size 3 1 (.slice (some ⟨g, 0, none⟩) l.length cap) l.length (l.map iv) ∧ Below w.heap.size w w' := by
  obtain ⟨g, o, rfl, hc⟩ := h h0
  have HC : Hid (∀ i, i < l.length → w.cell? ⟨g, o + i, none⟩ = some (iv (l.getD i 0))) := hc
  clear hc h
  obtain ⟨i0, hi, hz0, hz1, hz2⟩ := info_parts Yba.info3
  have hnew : ∀ j u, (l.map iv)[j]? = some u → (w.alloc (.cells #[] 3)).cell? (Addr.add ⟨g, o, none⟩ j) = some u := by
    intro j u hu
    rw [List.getElem?_map] at hu
    have hj : j < l.length := by
      rcases Nat.lt_or_ge j l.length with q | q
      · exact q
      · rw [List.getElem?_eq_none q] at hu; cases hu
    have := HC.out j hj
    rw [List.getD_eq_getElem?_getD, List.getElem?_eq_getElem hj] at this
    rw [List.getElem?_eq_getElem hj] at hu
    have ha : Addr.add ⟨g, o, none⟩ j = ⟨g, o + j, none⟩ := by
      unfold Addr.add
      split
      · rename_i h; subst h; rfl
      · rfl
    rw [ha, World.cell?_alloc_some _ _ _ (by rw [this]; rfl), this]
    rw [← hu]
    rfl
  have hone : ∀ u ∈ l.map iv, u.oneCell' = true := fun u hu => by
    obtain ⟨z, _, rfl⟩ := List.mem_map.1 hu
    rfl
  have hown : (w.alloc (.cells #[] 3)).ownsRow w.heap.size 3 1 (.slice (some ⟨w.heap.size, 0, none⟩) 0 0) 0 [] := World.ownsRow_made w #[] 0 (Nat.le_refl _) (by unfold maxLen; omega) rfl
  have HLL : Hid ((l.map iv).length = l.length * 1) := by show (l.map iv).length = l.length * 1; simp
  have hq := fun (w : World) => Lib.run_eql_slice_nil (P := Yba.prog) w 26 3 (some ⟨g, o, none⟩) l.length c 0 0 Yba.underlying26
  simp only [Option.isNone_some] at hq
  go_enter Yba.func19, Yba.ntmps19
  go_wp2_with (at_builtin; refine wpList_append_lies _ rfl _ _ 26 rfl w.heap.size 3 i0 _ 1 8 Yba.underlying26 hi hz0 hz1 hz2 rfl (by omega) _ 0 [] rfl hown ⟨g, o, none⟩ l.length c (l.map iv) rfl HLL.out hnew hone (by omega) (by unfold maxLen; omega) (by omega) (by simp) _ rfl ?_)

  intro g2 cap2 w2 hown2 hgr2 hat2 hlt2
  have HB : Hid (Below w.heap.size w w2) := ((Below.refl _ _).alloc (Nat.le_refl _) _).grown hgr2 (by simp) (fun k hk => by cases hk; exact Nat.le_refl _)
  have HO : Hid (w2.ownsRow w.heap.size 3 1 (.slice (some ⟨g2, 0, none⟩) l.length cap2) l.length (l.map iv)) := (by simpa using hown2 : w2.ownsRow w.heap.size 3 1 (.slice (some ⟨g2, 0, none⟩) l.length cap2) l.length (l.map iv))
  clear hown2 hgr2 hat2 hlt2 hnew hone hown
  go_wp2_with fail
  go_ret
  exact ⟨g2, cap2, by simp, HO.out, HB.out⟩
end Go.Proofs.Ybulkcyk
