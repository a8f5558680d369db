/-
  What the walk of LawS0196AScan (function 4) stands on: prefix (function 9), RecoveryOf over steps with scans, the array of what is present.
-/
import Derived.Test.YbulkdaoScanReads
import Derived.Test.YbulkdaoRecE
import Derived.Test.YbulkdaoMod
namespace Go.Proofs.Ybulkdao
open Go.RowKit

theorem pfx9 (k : Int) (w : World) (h0 : 0 ≤ k) (h1 : k ≤ 255) : Calls Yba.prog 9 #[.int .u8 k] w fun e w' => e = .returned (.string (pfxOf3 k)) ∧ w = w' := by
  rcases (show k % 3 = 0 ∨ k % 3 = 1 ∨ k % 3 = 2 by omega) with h | h | h
  all_goals
    have HK : Hid (pfxOf3 k = if k % 3 = 0 then ⟨#[]⟩ else if k % 3 = 1 then ⟨#[97]⟩ else ⟨#[98]⟩) := rfl
    have hq := h
    go_enter Yba.func9, Yba.ntmps9
    go_wp2
    go_ret
    exact ⟨by rw [HK.out, hq]; rfl, rfl⟩

/-- The steps laid out. -/
abbrev expE (S : Nat → Stp) (n : Nat) : Nat → Stp := fun i => (expL (keysL S n) S n).getD i dfl
theorem rec_scan (g n cap : Nat) (S : Nat → Stp) (w : World) (hn : n ≤ 1024) (hst : StRow g n S w) (hg : g < w.heap.size) (hs : ∀ i, Scs (S i)) :
    Calls Yba.prog 7 #[.slice (some ⟨g, 0, none⟩) n cap] w fun e w' => e = .returned (.agg #[.bool (modR (expE S n) (expL (keysL S n) S n).length), .bool (modC (expE S n) (expL (keysL S n) S n).length), .bool (modS (expE S n) (expL (keysL S n) S n).length)]) ∧ Below w.heap.size w w' := by
  have hpl := plain_expL (keysL S n) S hs n
  have hlen := expL_len (keysL S n) (keysL_len S n) S n
  have key : Calls Yba.prog 7 #[.slice (some ⟨g, 0, none⟩) n cap] w fun e w' => e = .returned (.agg #[.bool (sigR (expE S n) (expL (keysL S n) S n).length).rcv, .bool (sigR (expE S n) (expL (keysL S n) S n).length).cas, .bool (sigR (expE S n) (expL (keysL S n) S n).length).str]) ∧ Below w.heap.size w w' := by
    refine rec7 _ _ (expE S n) w (by omega) hpl.kd (fun w' hb hsz => ?_)
    have hst' : StRow g n S w' := hst.below hb hg
    have hg' : g < w'.heap.size := by omega
    by_cases hex : ∃ i, i < n ∧ (S i).kd = 3
    · refine (reads_scan g n cap S w' hn hst' hg' hs hex).mono ?_
      rintro e w2 ⟨g', cap', rfl, hb2, hrow, h1, h2⟩
      exact ⟨g', cap', rfl, hb2, hrow, .inr h1, h2⟩
    · have hno : ∀ i, i < n → (S i).kd ≠ 3 := fun i hi h => hex ⟨i, hi, h⟩
      obtain ⟨e1, e2⟩ := expL_none (keysL S n) S n hno
      refine (reads_plain g n cap S w' (by omega) hst' hg' hno).mono ?_
      rintro e w2 ⟨rfl, hb2⟩
      have h2 := hb2.size
      refine ⟨g, cap, by rw [e1], hb2, ?_, .inl hg, by omega⟩
      rw [e1]
      exact ⟨fun i hi j hj => by rw [show expE S n i = S i from e2 i hi]; exact (hst'.below hb2 hg').cell i hi j hj⟩
  rw [(law hpl).1, (law hpl).2.1, (law hpl).2.2] at key
  exact key

/-- The array of what is present. -/
structure PresAt (b : Nat) (B : ByteArray → Bool) (w : World) : Prop where
  blk : w.heap[b]? = some (.cells #[.bool (B ⟨#[97]⟩), .bool (B ⟨#[97, 98]⟩), .bool (B ⟨#[98]⟩)] 37 (0, 0))
theorem PresAt.kept {b : Nat} {B : ByteArray → Bool} {w w' : World} {row : Option Nat} (h : PresAt b B w) (hg : w.grownBy w' row) (hne : row ≠ some b) : PresAt b B w' := ⟨blk_kept hg hne h.blk⟩
theorem PresAt.lt {b : Nat} {B : ByteArray → Bool} {w : World} (h : PresAt b B w) : b < w.heap.size := lt_of_block h.blk
theorem PresAt.congr {b : Nat} {B B' : ByteArray → Bool} {w : World} (h : PresAt b B w) (e : ∀ k ∈ key3, B k = B' k) : PresAt b B' w := by
  refine ⟨h.blk.trans ?_⟩
  rw [e ⟨#[97]⟩ (by simp [key3]), e ⟨#[97, 98]⟩ (by simp [key3]), e ⟨#[98]⟩ (by simp [key3])]
theorem PresAt.cell {b : Nat} {B : ByteArray → Bool} {w : World} (h : PresAt b B w) (j : Nat) (hj : j < 3) : w.cell? ⟨b, j, none⟩ = some (.bool (B (keyOf3 j))) := by
  have hb := h.blk
  rcases (show j = 0 ∨ j = 1 ∨ j = 2 by omega) with rfl | rfl | rfl
  · rw [show keyOf3 ((0 : Nat) : Int) = ⟨#[97]⟩ from rfl]; simp [World.cell?, hb]
  · rw [show keyOf3 ((1 : Nat) : Int) = ⟨#[97, 98]⟩ from rfl]; simp [World.cell?, hb]
  · rw [show keyOf3 ((2 : Nat) : Int) = ⟨#[98]⟩ from rfl]; simp [World.cell?, hb]
theorem PresAt.frozen {b : Nat} {B : ByteArray → Bool} {w : World} (h : PresAt b B w) (j : Nat) : w.frozen? ⟨b, j, none⟩ = false := by
  simp [World.frozen?, h.blk]
theorem PresAt.set {b : Nat} {B : ByteArray → Bool} {w : World} (h : PresAt b B w) (j : Nat) (hj : j < 3) : PresAt b (fun k => B k || (keyOf3 j == k)) (w.setCell ⟨b, j, none⟩ (.bool true)) := by
  refine ⟨(set_blk h.blk j _).trans ?_⟩
  rcases (show j = 0 ∨ j = 1 ∨ j = 2 by omega) with rfl | rfl | rfl
  · rw [show keyOf3 ((0 : Nat) : Int) = ⟨#[97]⟩ from rfl, show ((⟨#[97]⟩ : ByteArray) == ⟨#[97]⟩) = true from rfl, show ((⟨#[97]⟩ : ByteArray) == ⟨#[97, 98]⟩) = false from rfl, show ((⟨#[97]⟩ : ByteArray) == ⟨#[98]⟩) = false from rfl]
    simp
  · rw [show keyOf3 ((1 : Nat) : Int) = ⟨#[97, 98]⟩ from rfl, show ((⟨#[97, 98]⟩ : ByteArray) == ⟨#[97]⟩) = false from rfl, show ((⟨#[97, 98]⟩ : ByteArray) == ⟨#[97, 98]⟩) = true from rfl, show ((⟨#[97, 98]⟩ : ByteArray) == ⟨#[98]⟩) = false from rfl]
    simp
  · rw [show keyOf3 ((2 : Nat) : Int) = ⟨#[98]⟩ from rfl, show ((⟨#[98]⟩ : ByteArray) == ⟨#[97]⟩) = false from rfl, show ((⟨#[98]⟩ : ByteArray) == ⟨#[97, 98]⟩) = false from rfl, show ((⟨#[98]⟩ : ByteArray) == ⟨#[98]⟩) = true from rfl]
    simp
theorem keyOf3_mod (k : Int) : keyOf3 (k % 3) = keyOf3 k := by unfold keyOf3; rw [Int.emod_emod_of_dvd k (Int.dvd_refl 3)]
/-- A step with no key turns nothing; one with a key turns that key on. -/
theorem named_none {S : Nat → Stp} {m : Nat} (h : (S m).ky = ⟨#[]⟩) : ∀ k ∈ key3, namedB S m k = namedB S (m + 1) k := by
  intro k hk
  show namedB S m k = (namedB S m k || ((S m).ky == k))
  rw [h]
  simp only [key3, List.mem_cons, List.not_mem_nil, or_false] at hk
  rcases hk with rfl | rfl | rfl
  · rw [show ((⟨#[]⟩ : ByteArray) == ⟨#[97]⟩) = false from rfl, Bool.or_false]
  · rw [show ((⟨#[]⟩ : ByteArray) == ⟨#[97, 98]⟩) = false from rfl, Bool.or_false]
  · rw [show ((⟨#[]⟩ : ByteArray) == ⟨#[98]⟩) = false from rfl, Bool.or_false]

end Go.Proofs.Ybulkdao
