/-
  LawS0180AModel (function 3), walked.
-/
import Derived.Test.YbulkcryFmtCheck
import Derived.OwnWalk
import Derived.Laws.BytesArg
import Derived.Laws.OwnMore
namespace Go.Proofs.YbulkcryFmt
open Go.RowKit Go.Extern.Stop Go.Stop Go.Extern

theorem Ybaf.info5 : (Ybaf.prog.info? 5).map (fun i => (i.zero, i.size, i.bytes)) = some (some (.int .u8 0), 1, 1) := by kernel_rfl

/-- The call's own buffer at block B: n bytes, the numbers xs; below B nothing has turned. -/
structure Buf (B n : Nat) (w wr : World) : Prop where
  own : ∃ xs : List Int, xs.length = n ∧ wr.ownsRow B 5 1 (.slice (some ⟨B, 0, none⟩) n n) n (xs.map (Value.int .u8))
  bel : Below B w wr

theorem Buf.cell {B n : Nat} {w wr : World} (h : Buf B n w wr) (k : Nat) (hk : k < n) : ∃ v, wr.cell? ⟨B, k, none⟩ = some (.int .u8 v) := by
  obtain ⟨⟨xs, hl, ho⟩, _⟩ := h
  have := ho.cellAt k (by omega)
  rw [this]
  exact ⟨xs[k]'(by omega), by simp [List.getElem?_map, List.getElem?_eq_getElem (show k < xs.length by omega)]⟩
theorem Buf.free {B n : Nat} {w wr : World} (h : Buf B n w wr) (k : Nat) : wr.frozen? ⟨B, k, none⟩ = false := by
  obtain ⟨⟨xs, hl, ho⟩, _⟩ := h
  exact ho.frozenAt k
theorem Buf.set {B n : Nat} {w wr : World} (h : Buf B n w wr) (k : Nat) (v : Int) : Buf B n w (wr.setCell ⟨B, k, none⟩ (.int .u8 v)) := by
  obtain ⟨⟨xs, hl, ho⟩, hb⟩ := h
  refine ⟨⟨xs.set k v, by simpa using hl, ?_⟩, hb.setCell (Nat.le_refl _) _⟩
  have := (ho.stored k (.int .u8 v)).1
  rwa [← List.map_set] at this
theorem Buf.made {n : Nat} {w w1 : World} (h : w1.ownsRow w.heap.size 5 1 (.slice (some ⟨w.heap.size, 0, none⟩) n n) n (madeCells (Value.int .u8 0).cells (n * 1)).toList) (hg : w.grownBy w1 none) : Buf w.heap.size n w w1 := by
  refine ⟨⟨List.replicate n 0, by simp, ?_⟩, (Below.refl _ _).grown hg (Nat.le_refl _) (fun k hk => by cases hk)⟩
  have e : (madeCells (Value.int .u8 0).cells (n * 1)).toList = (List.replicate n (0 : Int)).map (Value.int .u8) := by
    rw [Nat.mul_one]
    have := toList_madeCells_one (.int .u8 0) n
    simpa [Value.cells] using this
  rwa [e] at h

set_option maxHeartbeats 1600000 in
theorem model_pos (F : Interp) (b off n cap : Nat) (Z : Nat → Int) (o : Int) (w : World) (hF : F.answers w.tape) (hn : n ≤ maxLen) (hb : b < w.heap.size)
    (hc : ∀ k, k < n → w.cell? ⟨b, off + k, none⟩ = some (.int .u8 (Z k)) ∧ 0 ≤ Z k ∧ Z k ≤ 255) (h0 : 0 ≤ o) (h1 : o ≤ 255) :
    Calls Ybaf.prog 3 #[.slice (some ⟨b, off, none⟩) n cap, .int .u8 o] w fun e w' => e = .returned (.bool true) ∧ Below w.heap.size w w' := by
  have hn' := hn
  unfold maxLen at hn'
  by_cases hl : 1024 < n
  · have hl' : (1024 : Int) < (n : Int) := by omega
    go_enter Ybaf.func3, Ybaf.ntmps3
    go_wp2
    go_ret
    exact ⟨rfl, Below.refl _ _⟩
  · have hl' : (n : Int) ≤ 1024 := by omega
    obtain ⟨i0, hi, hz0, hz1, hz2⟩ := info_parts Ybaf.info5
    have HC : Hid (∀ k, k < n → w.cell? ⟨b, off + k, none⟩ = some (.int .u8 (Z k)) ∧ 0 ≤ Z k ∧ Z k ≤ 255) := hc
    clear hc hl
    go_enter Ybaf.func3, Ybaf.ntmps3
    go_wp2_with (at_make; refine wpList_make_full _ rfl _ _ 22 rfl w.heap.size 5 i0 (.int .u8 0) 1 Ybaf.underlying22 hi hz0 hz1 .i64 .i64 _ _ n rfl rfl rfl rfl (by rw [hz2]; omega) hn (Nat.le_refl _) ?_; intro w1 hown hgrow)
    have HB : Hid (Buf w.heap.size n w w1) := Buf.made hown hgrow
    clear hown hgrow hi hz0 hz1 hz2
    go_loopw [6] (fun i wr => ∃ k : Nat, k ≤ n ∧ i = .int .i64 k ∧ Buf w.heap.size n w wr) (fun i _ => n - (intOf i).toNat)
    case atStart => exact ⟨0, Nat.zero_le _, rfl, HB.out⟩
    case round =>
      obtain ⟨k, hk, rfl, hbuf⟩ := hrel
      have HB2 : Hid (Buf w.heap.size n w wr) := hbuf
      clear hbuf
      by_cases hlt : k < n
      · have hlt' : (k : Int) < (n : Int) := by omega
        obtain ⟨hcz, hz0, hz1⟩ := HC.out k hlt
        have hcw : wr.cell? ⟨b, off + k, none⟩ = some (.int .u8 (Z k)) := (HB2.out.bel.cell (by exact hb)).trans hcz
        obtain ⟨v, hv⟩ := HB2.out.cell k hlt
        have hfr := HB2.out.free k
        clear hcz
        generalize Z k = z at *
        obtain ⟨q, hq⟩ : ∃ q : Nat, (q : Int) = z % 17 := ⟨(z % 17).toNat, by omega⟩
        have hq17 : q < 17 := by omega
        have ht : z % 17 = (q : Int) := hq.symm
        clear hq
        go_wp2
        go_roundw
        case rel => exact ⟨k + 1, by omega, by go_num, HB2.out.set k _⟩
        case measure => simp [intOf]; omega
      · obtain ⟨⟨xs, hxl, ho⟩, hbel⟩ := HB2.out
        have hcs : ∀ i, i < n → wr.cell? ⟨w.heap.size, 0 + i, none⟩ = some (.int .u8 (xs.getD i 0)) := by
          intro i hi'
          have := ho.cellAt i (by omega)
          rw [Nat.zero_add, this]
          simp [List.getElem?_map, List.getElem?_eq_getElem (show i < xs.length by omega)]
        have hcv := run_convert_bytes_arg (P := Ybaf.prog) (w := wr) 22 5 Ybaf.underlying22 Ybaf.underlying5 w.heap.size 0 n n xs hxl hcs 9 Ybaf.underlying9
        have hsz : (strOfNums xs).size = n := by rw [strOfNums_size]; exact hxl
        have hF2 : F.answers wr.tape := by rw [hbel.tape]; exact hF
        obtain ⟨q, hq⟩ : ∃ q : Nat, (q : Int) = o % ((n : Int) + 1) := ⟨(o % ((n : Int) + 1)).toNat, by have := Int.emod_nonneg o (show ((n : Int) + 1) ≠ 0 by omega); omega⟩
        have hkl : q ≤ n := by have := Int.emod_lt_of_pos o (show 0 < ((n : Int) + 1) by omega); omega
        have hz : (((n : Int) + 1) == 0) = false := by simp; omega
        have ht : o.tmod ((n : Int) + 1) = (q : Int) := by rw [hq, Int.tmod_eq_emod_of_nonneg h0]
        have he : o % ((n : Int) + 1) = (q : Int) := hq.symm
        have HBel : Hid (Below w.heap.size w wr) := hbel
        generalize strOfNums xs = s at *
        clear hq hcs ho hbel HB2 HB HC
        go_wp2_with (go_at_call 5; go_must (refine (check_any F s q _ (by exact hF2) (by omega) (by omega)).mono ?_); rintro e w2 ⟨rfl, hb2⟩)
        go_ret
        exact ⟨rfl, HBel.out.trans (hb2.mono HBel.out.size)⟩

set_option maxHeartbeats 1600000 in
theorem model_nil (F : Interp) (ad : Option Addr) (n cap : Nat) (o : Int) (w : World) (hF : F.answers w.tape) (hn : n ≤ maxLen) (hnn : n ≤ 0) (h0 : 0 ≤ o) (h1 : o ≤ 255) :
    Calls Ybaf.prog 3 #[.slice ad n cap, .int .u8 o] w fun e w' => e = .returned (.bool true) ∧ Below w.heap.size w w' := by
  have hn' := hn
  unfold maxLen at hn'
  by_cases hl : 1024 < n
  · have hl' : (1024 : Int) < (n : Int) := by omega
    go_enter Ybaf.func3, Ybaf.ntmps3
    go_wp2
    go_ret
    exact ⟨rfl, Below.refl _ _⟩
  · have hl' : (n : Int) ≤ 1024 := by omega
    obtain ⟨i0, hi, hz0, hz1, hz2⟩ := info_parts Ybaf.info5
    clear hl
    go_enter Ybaf.func3, Ybaf.ntmps3
    go_wp2_with (at_make; refine wpList_make_full _ rfl _ _ 22 rfl w.heap.size 5 i0 (.int .u8 0) 1 Ybaf.underlying22 hi hz0 hz1 .i64 .i64 _ _ n rfl rfl rfl rfl (by rw [hz2]; omega) hn (Nat.le_refl _) ?_; intro w1 hown hgrow)
    have HB : Hid (Buf w.heap.size n w w1) := Buf.made hown hgrow
    clear hown hgrow hi hz0 hz1 hz2
    go_loopw [6] (fun i wr => ∃ k : Nat, k ≤ n ∧ i = .int .i64 k ∧ Buf w.heap.size n w wr) (fun i _ => n - (intOf i).toNat)
    case atStart => exact ⟨0, Nat.zero_le _, rfl, HB.out⟩
    case round =>
      obtain ⟨k, hk, rfl, hbuf⟩ := hrel
      have HB2 : Hid (Buf w.heap.size n w wr) := hbuf
      clear hbuf
      have hlt : ¬ k < n := by omega
      obtain ⟨⟨xs, hxl, ho⟩, hbel⟩ := HB2.out
      have hcs : ∀ i, i < n → wr.cell? ⟨w.heap.size, 0 + i, none⟩ = some (.int .u8 (xs.getD i 0)) := by
        intro i hi'
        have := ho.cellAt i (by omega)
        rw [Nat.zero_add, this]
        simp [List.getElem?_map, List.getElem?_eq_getElem (show i < xs.length by omega)]
      have hcv := run_convert_bytes_arg (P := Ybaf.prog) (w := wr) 22 5 Ybaf.underlying22 Ybaf.underlying5 w.heap.size 0 n n xs hxl hcs 9 Ybaf.underlying9
      have hsz : (strOfNums xs).size = n := by rw [strOfNums_size]; exact hxl
      have hF2 : F.answers wr.tape := by rw [hbel.tape]; exact hF
      obtain ⟨q, hq⟩ : ∃ q : Nat, (q : Int) = o % ((n : Int) + 1) := ⟨(o % ((n : Int) + 1)).toNat, by have := Int.emod_nonneg o (show ((n : Int) + 1) ≠ 0 by omega); omega⟩
      have hkl : q ≤ n := by have := Int.emod_lt_of_pos o (show 0 < ((n : Int) + 1) by omega); omega
      have hz : (((n : Int) + 1) == 0) = false := by simp; omega
      have ht : o.tmod ((n : Int) + 1) = (q : Int) := by rw [hq, Int.tmod_eq_emod_of_nonneg h0]
      have he : o % ((n : Int) + 1) = (q : Int) := hq.symm
      have HBel : Hid (Below w.heap.size w wr) := hbel
      generalize strOfNums xs = s at *
      clear hq hcs ho hbel HB2 HB
      go_wp2_with (go_at_call 5; go_must (refine (check_any F s q _ (by exact hF2) (by omega) (by omega)).mono ?_); rintro e w2 ⟨rfl, hb2⟩)
      go_ret
      exact ⟨rfl, HBel.out.trans (hb2.mono HBel.out.size)⟩

end Go.Proofs.YbulkcryFmt
