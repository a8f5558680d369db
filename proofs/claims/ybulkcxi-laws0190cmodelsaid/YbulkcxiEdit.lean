/-
  editDistance (function 18) by its contract.
-/
import Derived.Test.YbulkcxiPlain
import Derived.Test.YbulkcxiRowKit
import Derived.WalkLawsBesides
import Derived.BigRegion
import Derived.RegionTactic
namespace Go.Proofs.Ybulkcxi
open Go.RowKit Lev

theorem bytes_len (a : ByteArray) : a.data.toList.length = a.size := Array.length_toList
theorem bytes_get (a : ByteArray) (i : Nat) (h : i < a.size) : a.data.toList[i]'(by rw [bytes_len]; exact h) = a[i]'h := by rfl

theorem u8_ne {x y : UInt8} (h : ¬ x = y) : ((x.toNat : Int) != (y.toNat : Int)) = true := by
  rw [bne_iff_ne]
  intro e
  exact h (UInt8.toNat_inj.1 (by omega))

theorem row_step {g g2 n m k B : Nat} {f F : Nat → Nat} {w wr : World} {v : Int} (h : Row g n f wr ∧ Row g2 n (fun j => if j ≤ m then F j else 0) wr ∧ Below B w wr) (hg : g ≠ g2) (hB : B ≤ g2) (hv : v = (F (m + 1) : Nat)) :
    Row g n f ((wr.drewN k).setCell ⟨g2, m + 1, none⟩ (.int .i64 v)) ∧ Row g2 n (fun j => if j ≤ m + 1 then F j else 0) ((wr.drewN k).setCell ⟨g2, m + 1, none⟩ (.int .i64 v)) ∧ Below B w ((wr.drewN k).setCell ⟨g2, m + 1, none⟩ (.int .i64 v)) := by
  obtain ⟨r1, r2, r3⟩ := h
  subst hv
  refine ⟨(r1.drewN k).other _ _ hg, ((r2.drewN k).set (m + 1) _).congr (fun j hj => ?_), ?_⟩
  · by_cases e : j = m + 1
    · subst e; simp
    · rw [if_neg e]
      by_cases e2 : j ≤ m
      · rw [if_pos e2, if_pos (by omega)]
      · rw [if_neg e2, if_neg (by omega)]
  · have : Below B w (wr.drewN k) := ⟨r3.os, r3.tape, r3.output, r3.size, r3.block⟩
    exact this.setCell hB _

set_option maxRecDepth 10000 in
set_option maxHeartbeats 3200000 in
theorem edit18 (a b : ByteArray) (w : World) (ha : a.size ≤ 1024) (hb : b.size ≤ 1024) :
    Calls Yba.prog 18 #[.string a, .string b] w fun e w' => e = .returned (.int .i64 (L a.data.toList b.data.toList : Nat)) ∧ Below w.heap.size w w' := by
  obtain ⟨i0, hi, hz0, hz1, hz2⟩ := info_parts Yba.info3
  obtain ⟨al, hal⟩ : ∃ al, al = a.data.toList := ⟨_, rfl⟩
  obtain ⟨bl, hbl⟩ : ∃ bl, bl = b.data.toList := ⟨_, rfl⟩
  have lal : al.length = a.size := by rw [hal, bytes_len]
  have lbl : bl.length = b.size := by rw [hbl, bytes_len]
  rw [← hal, ← hbl]
  have HAL : Hid (al = a.data.toList ∧ bl = b.data.toList ∧ al.length = a.size ∧ bl.length = b.size) := ⟨hal, hbl, lal, lbl⟩
  clear hal hbl lal lbl
  have hc1 : ((b.size + 1 : Nat) : Int) = (b.size : Int) + 1 := by omega
  have HC1 : Hid (((b.size + 1 : Nat) : Int) = (b.size : Int) + 1) := hc1
  clear hc1
  go_enter Yba.func18, Yba.ntmps18
  go_wp2_with (at_make; refine wpList_make_full _ rfl _ _ 92 rfl w.heap.size 3 i0 (.int .i64 0) 1 Yba.underlying92 hi hz0 hz1 .i64 .i64 _ _ (b.size + 1) rfl rfl HC1.out.symm HC1.out.symm (by rw [hz2]; omega) (by unfold maxLen; omega) (Nat.le_refl _) ?_; intro w1 hown hgrow)
  have HR : Hid (Row w.heap.size (b.size + 1) (fun _ => 0) w1 ∧ Below w.heap.size w w1) := ⟨Row.made hown, (Below.refl _ _).grown hgrow (Nat.le_refl _) (fun k hk => by cases hk)⟩
  clear hown hgrow
  go_loopw [17] (fun i wr => ∃ k : Nat, k ≤ b.size + 1 ∧ i = .int .i64 k ∧ Row w.heap.size (b.size + 1) (fun j => if j < k then j else 0) wr ∧ Below w.heap.size w wr) (fun i _ => b.size + 1 - (intOf i).toNat)
  case atStart => exact ⟨0, by omega, rfl, HR.out.1.congr (fun j hj => by simp), HR.out.2⟩
  case round =>
    obtain ⟨k, hk, rfl, hrow, hbel⟩ := hrel
    have HR2 : Hid (Row w.heap.size (b.size + 1) (fun j => if j < k then j else 0) wr ∧ Below w.heap.size w wr) := ⟨hrow, hbel⟩
    clear hrow hbel HR
    by_cases hlt : k < b.size + 1
    · have hlt' : (k : Int) < (b.size : Int) + 1 := by omega
      have hc := HR2.out.1.cell k hlt
      have hf := HR2.out.1.free k
      go_wp2
      go_roundw
      case rel => exact ⟨k + 1, by omega, by go_num, (HR2.out.1.set k k).congr (fun j hj => by split <;> (try split) <;> (try split) <;> omega), HR2.out.2.setCell (Nat.le_refl _) _⟩
      case measure => simp [intOf]; omega
    · have hke : k = b.size + 1 := by omega
      have HR3 : Hid (Row w.heap.size (b.size + 1) (P al bl 0) wr ∧ Below w.heap.size w wr) := by
        refine ⟨HR2.out.1.congr (fun j hj => ?_), HR2.out.2⟩
        have := HAL.out
        rw [if_pos (by omega), P_zero al bl j (by omega)]
      have hltd : decide ((k : Int) < (b.size : Int) + 1) = false := decide_eq_false (by omega)
      clear HR2 hke
      go_wp2
      clear hltd hlt hk
      go_loopw [5, 27] (fun pv i wr => ∃ k g : Nat, k ≤ a.size ∧ i = .int .i64 k ∧ pv = .slice (some ⟨g, 0, none⟩) (b.size + 1) (b.size + 1) ∧ w.heap.size ≤ g ∧ Row g (b.size + 1) (P al bl k) wr ∧ Below w.heap.size w wr) (fun _ i _ => a.size - (intOf i).toNat)
      case atStart => exact ⟨0, w.heap.size, by omega, rfl, rfl, Nat.le_refl _, HR3.out.1, HR3.out.2⟩
      case round =>
        clear HR3
        obtain ⟨q, g, hq, rfl, rfl, hg, hrow, hbel⟩ := hrel
        have HR4 : Hid (Row g (b.size + 1) (P al bl q) wr ∧ Below w.heap.size w wr) := ⟨hrow, hbel⟩
        have hgl := hrow.lt
        clear hrow hbel
        by_cases hlt : q < a.size
        · have hlt' : (q : Int) < (a.size : Int) := by omega
          go_wp2_with (at_make; refine wpList_make_full _ rfl _ _ 92 rfl wr.heap.size 3 i0 (.int .i64 0) 1 Yba.underlying92 hi hz0 hz1 .i64 .i64 _ _ (b.size + 1) rfl rfl HC1.out.symm HC1.out.symm (by rw [hz2]; omega) (by unfold maxLen; omega) (Nat.le_refl _) ?_; intro w2 hown hgrow; have HR5 : Hid (Row g (b.size + 1) (P al bl q) w2 ∧ Row wr.heap.size (b.size + 1) (fun _ => 0) w2 ∧ Below w.heap.size w w2) := ⟨HR4.out.1.grown hgrow, Row.made hown, HR4.out.2.grown hgrow HR4.out.2.size (fun k hk => by cases hk)⟩; clear hown hgrow HR4; have hcc := HR5.out.2.1.cell 0 (by omega); have hff := HR5.out.2.1.free 0)
          clear hcc hff
          have HR6 : Hid (Row g (b.size + 1) (P al bl q) (w2.setCell ⟨wr.heap.size, 0, none⟩ (.int .i64 ((q : Int) + 1))) ∧ Row wr.heap.size (b.size + 1) (fun j => if j ≤ 0 then P al bl (q + 1) j else 0) (w2.setCell ⟨wr.heap.size, 0, none⟩ (.int .i64 ((q : Int) + 1))) ∧ Below w.heap.size w (w2.setCell ⟨wr.heap.size, 0, none⟩ (.int .i64 ((q : Int) + 1)))) := by
            obtain ⟨r1, r2, r3⟩ := HR5.out
            have hA := HAL.out
            refine ⟨r1.other _ _ (by simp; omega), (r2.set 0 (q + 1)).congr (fun j hj => ?_), r3.setCell (by simp; omega) _⟩
            by_cases e : j = 0
            · subst e; simp [P_zero' al bl (q + 1) (by omega)]
            · simp [e]
          clear HR5
          generalize w2.setCell ⟨wr.heap.size, 0, none⟩ (.int .i64 ((q : Int) + 1)) = w3 at *
          have hg2 : g ≠ wr.heap.size := by omega
          have hg3 : w.heap.size ≤ wr.heap.size := by omega
          generalize hgg : wr.heap.size = g2 at *
          have HGG : Hid (wr.heap.size = g2) := hgg
          clear hgg
          go_loopw [40] (fun jv wx => ∃ m : Nat, m ≤ b.size ∧ jv = .int .i64 m ∧ Row g (b.size + 1) (P al bl q) wx ∧ Row g2 (b.size + 1) (fun j => if j ≤ m then P al bl (q + 1) j else 0) wx ∧ Below w.heap.size w wx) (fun jv _ => b.size - (intOf jv).toNat)
          case atStart => exact ⟨0, by omega, rfl, HR6.out.1, HR6.out.2.1, HR6.out.2.2⟩
          case round =>
            clear HR6
            obtain ⟨m, hm, rfl, r1, r2, r3⟩ := hrel
            have HR7 : Hid (Row g (b.size + 1) (P al bl q) wr ∧ Row g2 (b.size + 1) (fun j => if j ≤ m then P al bl (q + 1) j else 0) wr ∧ Below w.heap.size w wr) := ⟨r1, r2, r3⟩
            clear r1 r2 r3
            by_cases hlm : m < b.size
            · have hlm' : (m : Int) < (b.size : Int) := by omega
              have hlm1 : (m : Int) < (b.size : Int) + 1 := by omega
              have hlm2 : (m : Int) + 1 < (b.size : Int) + 1 := by omega
              have c0 := HR7.out.1.cell m (by omega)
              have c1 := HR7.out.1.cell (m + 1) (by omega)
              have d0 := HR7.out.2.1.cell m (by omega)
              have d1 := HR7.out.2.1.cell (m + 1) (by omega)
              have f1 := HR7.out.2.1.free (m + 1)
              rw [if_pos (Nat.le_refl _)] at d0
              rw [if_neg (by omega)] at d1
              have hA := HAL.out
              have hp := P_succ al bl q m (by omega) (by omega)
              have hx0 := P_le al bl q m
              have hx1 := P_le al bl q (m + 1)
              have hx2 := P_le al bl (q + 1) m
              rw [hA.2.2.1, hA.2.2.2] at hx0 hx1 hx2
              have e1 : al[q]'(by omega) = a[q]'hlt := by simp only [hA.1]; rfl
              have e2 : bl[m]'(by omega) = b[m]'hlm := by simp only [hA.2.1]; rfl
              rw [e1, e2] at hp
              clear e1 e2 hA
              have HP : Hid (P al bl (q + 1) (m + 1) = min (P al bl q m + if a[q]'hlt = b[m]'hlm then 0 else 1) (min (P al bl q (m + 1) + 1) (P al bl (q + 1) m + 1))) := hp
              clear hp
              by_cases hab : a[q]'hlt = b[m]'hlm
              · have hne : (((a[q]'hlt).toNat : Int) != ((b[m]'hlm).toNat : Int)) = false := by simp [hab]
                have HAB : Hid (a[q]'hlt = b[m]'hlm) := hab
                clear hab
                generalize P al bl q m = p0 at *
                generalize P al bl q (m + 1) = p1 at *
                generalize P al bl (q + 1) m = e0 at *
                go_wp2
                go_quiet (fail)
                go_wp2
                go_region
                go_wp2
                go_roundw
                case rel => exact ⟨m + 1, by omega, by go_num, row_step HR7.out hg2 hg3 (by rw [HP.out, if_pos HAB.out]; (repeat' split) <;> omega)⟩
                case measure => simp [intOf]; omega
              · have hne : (((a[q]'hlt).toNat : Int) != ((b[m]'hlm).toNat : Int)) = true := u8_ne hab
                have HAB : Hid (¬ a[q]'hlt = b[m]'hlm) := hab
                clear hab
                generalize P al bl q m = p0 at *
                generalize P al bl q (m + 1) = p1 at *
                generalize P al bl (q + 1) m = e0 at *
                go_wp2
                go_quiet (fail)
                go_wp2
                go_region
                go_wp2
                go_roundw
                case rel => exact ⟨m + 1, by omega, by go_num, row_step HR7.out hg2 hg3 (by rw [HP.out, if_neg HAB.out]; (repeat' split) <;> omega)⟩
                case measure => simp [intOf]; omega
            · have hle : m = b.size := by omega
              have HR8 : Hid (Row g2 (b.size + 1) (P al bl (q + 1)) wr ∧ Below w.heap.size w wr) := ⟨HR7.out.2.1.congr (fun j hj => by rw [if_pos (by omega)]), HR7.out.2.2⟩
              clear HR7 hle
              go_wp2
              go_roundw
              case rel => exact ⟨q + 1, g2, by omega, by go_num, rfl, hg3, HR8.out.1, HR8.out.2⟩
              case measure => simp [intOf]; omega
        · have hle : q = a.size := by omega
          have c0 := HR4.out.1.cell b.size (by omega)
          have hA := HAL.out
          have he : P al bl q b.size = L al bl := by rw [hle, ← hA.2.2.1, ← hA.2.2.2]; exact P_end al bl
          rw [he] at c0
          have hbb : (b.size : Int) < (b.size : Int) + 1 := by omega
          clear hA he hle
          go_wp2
          go_ret
          exact ⟨rfl, HR4.out.2⟩

end Go.Proofs.Ybulkcxi
