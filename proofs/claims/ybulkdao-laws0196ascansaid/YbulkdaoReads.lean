/-
  slices.ContainsFunc over steps (functions 13, 17, 14); reads (function 11) where there is no scan; kind and key (functions 5, 6).
-/
import Derived.Test.YbulkdaoRecPre
namespace Go.Proofs.Ybulkdao
open Go.RowKit

theorem ret_bool {a b : Bool} (h : a = b) : Ending.returned (.bool a) = .returned (.bool b) := by rw [h]

/-- A step as a value. -/
abbrev stepVal (s : Stp) : Value := .agg #[.int .u8 s.kd, .int .i64 s.tx, .string s.ky, .string s.px, .string ⟨#[]⟩, .int .u8 0, .int .i64 0, .int .i64 0, .string ⟨#[]⟩]

set_option maxHeartbeats 400000 in
theorem isScan14 (s : Stp) (w : World) : Calls Yba.prog 14 #[stepVal s] w fun e w' => e = .returned (.bool (s.kd == 3)) ∧ Below w.heap.size w w' := by
  go_enter Yba.func14, Yba.ntmps14
  go_wp2
  go_ret
  exact ⟨rfl, (Below.refl _ _).alloc (Nat.le_refl _) _⟩

set_option maxRecDepth 10000 in
set_option maxHeartbeats 1600000 in
theorem index17 (g n cap : Nat) (S : Nat → Stp) (w : World) (hn : n ≤ 4000) (hst : StRow g n S w) (hg : g < w.heap.size) :
    Calls Yba.prog 17 #[.slice (some ⟨g, 0, none⟩) n cap, .func (.func 14) #[] #[]] w fun e w' => ∃ z : Int, e = .returned (.int .i64 z) ∧ (0 ≤ z ↔ ∃ i, i < n ∧ (S i).kd = 3) ∧ Below w.heap.size w w' := by
  have HST : Hid (StRow g n S w) := hst
  clear hst
  go_enter Yba.func17, Yba.ntmps17
  go_wp2_with fail
  go_loopg [8] n (fun gn iv wr => ∃ i : Nat, gn = n - i ∧ i ≤ n ∧ iv = .int .i64 i ∧ (∀ j, j < i → (S j).kd ≠ 3) ∧ Below w.heap.size w wr)
  case atStart => exact ⟨0, rfl, Nat.zero_le _, rfl, fun j hj => by omega, Below.refl _ _⟩
  case round =>
    obtain ⟨i, hgk, hi, rfl, hno, hbel⟩ := hrel
    have HGK : Hid (gk = n - i) := hgk
    have HNO : Hid (∀ j, j < i → (S j).kd ≠ 3) := hno
    have HB : Hid (Below w.heap.size w wr) := hbel
    have hrw : StRow g n S wr := HST.out.below hbel hg
    clear hgk hno hbel
    by_cases hlt : i < n
    · have hlt' : (i : Int) < (n : Int) := by omega
      have k0 := hrw.cell i hlt 0 (by omega)
      have k1 := hrw.cell i hlt 1 (by omega)
      have k2 := hrw.cell i hlt 2 (by omega)
      have k3 := hrw.cell i hlt 3 (by omega)
      have k4 := hrw.cell i hlt 4 (by omega)
      have k5 := hrw.cell i hlt 5 (by omega)
      have k6 := hrw.cell i hlt 6 (by omega)
      have k7 := hrw.cell i hlt 7 (by omega)
      have k8 := hrw.cell i hlt 8 (by omega)
      simp only [stCell, Nat.add_zero] at k0 k1 k2 k3 k4 k5 k6 k7 k8
      clear hrw
      cases hk : ((S i).kd == 3)
      · go_wp2_with (go_at_call 14; refine (isScan14 (S i) _).mono ?_; rintro e w1 ⟨rfl, hb1⟩; rw [hk]; have HB1 : Hid (Below w.heap.size w w1) := HB.out.trans (hb1.mono HB.out.size); clear hb1)
        go_roundg (n - (i + 1))
        case measure => rw [HGK.out]; omega
        case rel =>
          refine ⟨i + 1, rfl, by omega, by go_num, fun j hj => ?_, HB1.out⟩
          by_cases e : j = i
          · subst e; simpa using hk
          · exact HNO.out j (by omega)
      · go_wp2_with (go_at_call 14; refine (isScan14 (S i) _).mono ?_; rintro e w1 ⟨rfl, hb1⟩; rw [hk]; have HB1 : Hid (Below w.heap.size w w1) := HB.out.trans (hb1.mono HB.out.size); clear hb1)
        go_ret
        exact ⟨_, rfl, ⟨fun _ => ⟨i, hlt, by simpa using hk⟩, fun _ => by omega⟩, HB1.out⟩
    · clear hrw
      go_wp2_with fail
      go_ret
      refine ⟨_, rfl, ⟨fun h => by omega, fun ⟨j, hj, h⟩ => absurd h (HNO.out j (by omega))⟩, HB.out⟩

set_option maxRecDepth 10000 in
theorem contains13 (g n cap : Nat) (S : Nat → Stp) (w : World) (hn : n ≤ 4000) (hst : StRow g n S w) (hg : g < w.heap.size) (b : Bool) (hb : b = true ↔ ∃ i, i < n ∧ (S i).kd = 3) :
    Calls Yba.prog 13 #[.slice (some ⟨g, 0, none⟩) n cap, .func (.func 14) #[] #[]] w fun e w' => e = .returned (.bool b) ∧ Below w.heap.size w w' := by
  have HST : Hid (StRow g n S w) := hst
  have HB : Hid (b = true ↔ ∃ i, i < n ∧ (S i).kd = 3) := hb
  clear hst hb
  go_enter Yba.func13, Yba.ntmps13
  go_wp2_with fail
  refine (index17 g n cap S _ hn HST.out hg).mono ?_
  rintro e w1 ⟨z, rfl, hz, hb1⟩
  have HZ : Hid (decide (0 ≤ z) = b) := by
    show decide (0 ≤ z) = b
    rw [Bool.eq_iff_iff, HB.out, decide_eq_true_eq, hz]
  have HB1 : Hid (Below w.heap.size w w1) := hb1
  clear hb1 hz
  go_wp2
  go_ret
  exact ⟨ret_bool HZ.out, HB1.out⟩

set_option maxRecDepth 10000 in
/-- reads, no scan: the very steps. -/
theorem reads_plain (g n cap : Nat) (S : Nat → Stp) (w : World) (hn : n ≤ 4000) (hst : StRow g n S w) (hg : g < w.heap.size) (hno : ∀ i, i < n → (S i).kd ≠ 3) :
    Calls Yba.prog 11 #[.slice (some ⟨g, 0, none⟩) n cap] w fun e w' => e = .returned (.slice (some ⟨g, 0, none⟩) n cap) ∧ Below w.heap.size w w' := by
  have HST : Hid (StRow g n S w) := hst
  have HNO : Hid (∀ i, i < n → (S i).kd ≠ 3) := hno
  clear hst hno
  go_enter Yba.func11, Yba.ntmps11
  go_wp2_with fail
  refine (contains13 g n cap S _ hn HST.out hg false ⟨(fun h => by cases h), (fun ⟨i, h1, h2⟩ => absurd h2 (HNO.out i h1))⟩).mono ?_
  rintro e w1 ⟨rfl, hb1⟩
  have HB1 : Hid (Below w.heap.size w w1) := hb1
  clear hb1
  go_wp2
  go_ret
  exact ⟨rfl, HB1.out⟩

/-- The kind of an op; the key of a k. -/
def kindOf (op : Int) : Int := if op % 4 = 0 then 1 else if op % 4 = 1 then 2 else if op % 4 = 2 then 4 else 5
def keyOf3 (k : Int) : ByteArray := if k % 3 = 0 then ⟨#[97]⟩ else if k % 3 = 1 then ⟨#[97, 98]⟩ else ⟨#[98]⟩

theorem kind5 (op : Int) (w : World) (h0 : 0 ≤ op) (h1 : op ≤ 255) : Calls Yba.prog 5 #[.int .u8 op] w fun e w' => e = .returned (.int .u8 (kindOf op)) ∧ w = w' := by
  rcases (show op % 4 = 0 ∨ op % 4 = 1 ∨ op % 4 = 2 ∨ op % 4 = 3 by omega) with h | h | h | h
  all_goals
    have HK : Hid (kindOf op = if op % 4 = 0 then 1 else if op % 4 = 1 then 2 else if op % 4 = 2 then 4 else 5) := rfl
    have hq := h
    go_enter Yba.func5, Yba.ntmps5
    go_wp2
    go_ret
    exact ⟨by rw [HK.out, hq]; rfl, rfl⟩
theorem key6 (k : Int) (w : World) (h0 : 0 ≤ k) (h1 : k ≤ 255) : Calls Yba.prog 6 #[.int .u8 k] w fun e w' => e = .returned (.string (keyOf3 k)) ∧ w = w' := by
  rcases (show k % 3 = 0 ∨ k % 3 = 1 ∨ k % 3 = 2 by omega) with h | h | h
  all_goals
    have HK : Hid (keyOf3 k = if k % 3 = 0 then ⟨#[97]⟩ else if k % 3 = 1 then ⟨#[97, 98]⟩ else ⟨#[98]⟩) := rfl
    have hq := h
    go_enter Yba.func6, Yba.ntmps6
    go_wp2
    go_ret
    exact ⟨by rw [HK.out, hq]; rfl, rfl⟩

end Go.Proofs.Ybulkdao
