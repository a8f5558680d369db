/-
  The ops as they come in: a slice of structs of three bytes, opened.
-/
import Derived.Test.YbulkdaoLawPre
import Derived.Deep.Slices
import Derived.Deep.Strs
namespace Go.Proofs.Ybulkdao
open Go.ChangeShapes Go.WideShapes Go.RowKit

theorem add_none (g o k : Nat) : Addr.add ⟨g, o, none⟩ k = ⟨g, o + k, none⟩ := by
  unfold Addr.add
  split
  · rename_i h; subst h; rfl
  · rfl
theorem lt_of_cell {w : World} {a : Addr} {v : Value} (h : w.cell? a = some v) : a.block < w.heap.size := by
  by_cases hl : a.block < w.heap.size
  · exact hl
  · unfold World.cell? at h
    rw [Array.getElem?_eq_none (by omega)] at h
    simp at h
theorem Yba.cells25 : Yba.prog.cellsOf 25 = 3 := by kernel_rfl
theorem Yba.cells5 : Yba.prog.cellsOf 5 = 1 := by kernel_rfl
def sel3 (z : Int × Int × Int) : Nat → Int
  | 0 => z.1
  | 1 => z.2.1
  | _ => z.2.2
theorem u8_rng {n : Int} (h : (Lit.int .u8 n).wf = true) : 0 ≤ n ∧ n ≤ 255 := by
  simp only [Lit.wf, Bool.and_eq_true, decide_eq_true_eq] at h
  have e1 : IntKind.u8.min = 0 := by decide
  have e2 : IntKind.u8.max = 255 := by decide
  omega

/-- One op. -/
theorem op_open {H : Type} {enc : TypeId × Value → H} {W : World} {n : Nat} {cs : List Value} {x : DataW H × List MemPlace}
    (h : DataW.trod enc Yba.prog W 0 (fun _ => true) true n 25 cs = some x) : ∃ z : Int × Int × Int, ∀ j, j < 3 → cs[j]? = some (.int .u8 (sel3 z j)) ∧ 0 ≤ sel3 z j ∧ sel3 z j ≤ 255 := by
  obtain ⟨y0, y1, y2, k, _, hl, h0, h1, h2⟩ := Deep.trod_struct3 Yba.underlying25 h
  rw [Yba.cells25] at hl
  obtain ⟨c0, c1, c2, rfl⟩ : ∃ c0 c1 c2, cs = [c0, c1, c2] := by
    match cs, hl with
    | [c0, c1, c2], _ => exact ⟨c0, c1, c2, rfl⟩
  simp only [Yba.cells5] at h0 h1 h2
  obtain ⟨n0, e0, _, w0⟩ := DataW.trod_int Yba.underlying5 h0
  obtain ⟨n1, e1, _, w1⟩ := DataW.trod_int Yba.underlying5 h1
  obtain ⟨n2, e2, _, w2⟩ := DataW.trod_int Yba.underlying5 h2
  simp at e0 e1 e2
  subst e0 e1 e2
  refine ⟨(n0, n1, n2), fun j hj => ?_⟩
  rcases (show j = 0 ∨ j = 1 ∨ j = 2 by omega) with rfl | rfl | rfl
  · exact ⟨rfl, u8_rng w0⟩
  · exact ⟨rfl, u8_rng w1⟩
  · exact ⟨rfl, u8_rng w2⟩

theorem ops_open {H : Type} {enc : TypeId × Value → H} {W : World} {fuel : Nat} {p : Option Addr} {len cap : Nat} {x : DataW H × List MemPlace}
    (h : DataW.trod enc Yba.prog W 0 (fun _ => true) true fuel 22 [.slice p len cap] = some x) :
    ∃ (g o : Nat) (sp : Option Nat) (O : Nat → Nat → Int), (0 < len → p = some ⟨g, o, sp⟩ ∧ g < W.heap.size) ∧ OpRow g o sp len O W ∧ ∀ i, i < len → ∀ j, j < 3 → 0 ≤ O i j ∧ O i j ≤ 255 := by
  rcases Deep.open_slice Yba.underlying22 h with ⟨hcs, _⟩ | ⟨a, l, c, m, n, D, Pl, hcs, _, hl, hm, hmm, _, hx⟩
  · simp at hcs
    obtain ⟨rfl, rfl, rfl⟩ := hcs
    exact ⟨0, 0, none, fun _ _ => 0, fun h => absurd h (by omega), ⟨fun i hi => absurd hi (by omega)⟩, fun i hi => absurd hi (by omega)⟩
  · simp at hcs
    obtain ⟨rfl, rfl, rfl⟩ := hcs
    simp only [if_true] at hmm
    subst hmm
    obtain ⟨f, hf⟩ := Deep.choose_lt (α := Int × Int × Int) (n := len) (p := fun i z => ∀ j, j < 3 → W.cell? ((a.add (i * 3)).add j) = some (.int .u8 (sel3 z j)) ∧ 0 ≤ sel3 z j ∧ sel3 z j ≤ 255) (fun i hi => by
      obtain ⟨cs', h1, h2⟩ := hx i (by omega)
      rw [Yba.cells25] at h1
      obtain ⟨z, hz⟩ := op_open h2
      obtain ⟨_, _, hc⟩ := World.cells?_some h1
      exact ⟨z, fun j hj => ⟨by rw [hc j hj]; exact (hz j hj).1, (hz j hj).2⟩⟩)
    obtain ⟨g, o, sp⟩ := a
    have hsp : 0 < len → sp = none := fun h0 => by
      have := World.cell?_spot (hf 0 h0 0 (by omega)).1
      simpa [Addr.add] using this
    refine ⟨g, o, sp, fun i j => sel3 (f i) j, fun h0 => ⟨rfl, ?_⟩, ⟨fun i hi j hj => ?_⟩, fun i hi j hj => (hf i hi j hj).2⟩
    · have := lt_of_cell (hf 0 h0 0 (by omega)).1
      simpa [Addr.add] using this
    · have h1 := (hf i hi j hj).1
      rw [hsp (by omega)] at h1 ⊢
      rw [add_none, add_none] at h1
      exact h1

end Go.Proofs.Ybulkdao
