/-
  zzs0190cmodel (function 19) by its contract.
-/
import Derived.Test.YbulkcxiEdit
namespace Go.Proofs.Ybulkcxi
open Go.RowKit Lev

theorem row_back {g g2 n t k B : Nat} {f F : Nat → Nat} {w wr : World} {v : Int} (h : Row g n f wr ∧ Row g2 n (fun j => if t + 1 ≤ j then F j else 0) wr ∧ Below B w wr) (hg : g ≠ g2) (hB : B ≤ g2) (hv : v = (F t : Nat)) :
    Row g n f ((wr.drewN k).setCell ⟨g2, t, none⟩ (.int .i64 v)) ∧ Row g2 n (fun j => if t ≤ j then F j else 0) ((wr.drewN k).setCell ⟨g2, t, none⟩ (.int .i64 v)) ∧ Below B w ((wr.drewN k).setCell ⟨g2, t, none⟩ (.int .i64 v)) := by
  obtain ⟨r1, r2, r3⟩ := h
  subst hv
  refine ⟨(r1.drewN k).other _ _ hg, ((r2.drewN k).set t _).congr (fun j hj => ?_), ?_⟩
  · by_cases e : j = t
    · subst e; simp
    · rw [if_neg e]
      by_cases e2 : t + 1 ≤ j
      · rw [if_pos e2, if_pos (by omega)]
      · rw [if_neg e2, if_neg (by omega)]
  · have : Below B w (wr.drewN k) := ⟨r3.os, r3.tape, r3.output, r3.size, r3.block⟩
    exact this.setCell hB _

set_option maxRecDepth 10000 in
set_option maxHeartbeats 3200000 in
theorem suffix19 (a b : ByteArray) (w : World) (ha : a.size ≤ 1024) (hb : b.size ≤ 1024) :
    Calls Yba.prog 19 #[.string a, .string b] w fun e w' => e = .returned (.int .i64 (L a.data.toList b.data.toList : Nat)) ∧ Below w.heap.size w w' := by
  obtain ⟨i0, hi, hz0, hz1, hz2⟩ := info_parts Yba.info3
  obtain ⟨al, hal⟩ : ∃ al, al = a.data.toList := ⟨_, rfl⟩
  obtain ⟨bl, hbl⟩ : ∃ bl, bl = b.data.toList := ⟨_, rfl⟩
  have lal : al.length = a.size := by rw [hal, bytes_len]
  have lbl : bl.length = b.size := by rw [hbl, bytes_len]
  rw [← hal, ← hbl]
  have HAL : Hid (al = a.data.toList ∧ bl = b.data.toList ∧ al.length = a.size ∧ bl.length = b.size) := ⟨hal, hbl, lal, lbl⟩
  clear hal hbl lal lbl
  have HC1 : Hid (((b.size + 1 : Nat) : Int) = (b.size : Int) + 1) := by show ((b.size + 1 : Nat) : Int) = (b.size : Int) + 1; omega
  go_enter Yba.func19, Yba.ntmps19
  go_wp2_with (at_make; refine wpList_make_full _ rfl _ _ 92 rfl w.heap.size 3 i0 (.int .i64 0) 1 Yba.underlying92 hi hz0 hz1 .i64 .i64 _ _ (b.size + 1) rfl rfl HC1.out.symm HC1.out.symm (by rw [hz2]; omega) (by unfold maxLen; omega) (Nat.le_refl _) ?_; intro w1 hown hgrow)
  have HR : Hid (Row w.heap.size (b.size + 1) (fun _ => 0) w1 ∧ Below w.heap.size w w1) := ⟨Row.made hown, (Below.refl _ _).grown hgrow (Nat.le_refl _) (fun k hk => by cases hk)⟩
  clear hown hgrow
  go_loopw [8] (fun i wr => ∃ k : Nat, k ≤ b.size + 1 ∧ i = .int .i64 k ∧ Row w.heap.size (b.size + 1) (fun j => if j < k then b.size - j else 0) wr ∧ Below w.heap.size w wr) (fun i _ => b.size + 1 - (intOf i).toNat)
  case atStart => exact ⟨0, by omega, rfl, HR.out.1.congr (fun j hj => by simp), HR.out.2⟩
  case round =>
    obtain ⟨k, hk, rfl, hrow, hbel⟩ := hrel
    have HR2 : Hid (Row w.heap.size (b.size + 1) (fun j => if j < k then b.size - j else 0) wr ∧ Below w.heap.size w wr) := ⟨hrow, hbel⟩
    clear hrow hbel HR
    by_cases hlt : k ≤ b.size
    · have hlt' : (k : Int) ≤ (b.size : Int) := by omega
      have hlt2 : (k : Int) < (b.size : Int) + 1 := by omega
      have hc := HR2.out.1.cell k (by omega)
      have hf := HR2.out.1.free k
      have ev : (b.size : Int) - (k : Int) = ((b.size - k : Nat) : Int) := by omega
      have EV : Hid ((b.size : Int) - (k : Int) = ((b.size - k : Nat) : Int)) := ev
      clear ev
      go_wp2
      go_roundw
      case rel =>
        rw [EV.out]
        exact ⟨k + 1, by omega, by go_num, (HR2.out.1.set k (b.size - k)).congr (fun j hj => by split <;> (try split) <;> (try split) <;> omega), HR2.out.2.setCell (Nat.le_refl _) _⟩
      case measure => simp [intOf]; omega
    · have HR3 : Hid (Row w.heap.size (b.size + 1) (S al bl a.size) wr ∧ Below w.heap.size w wr) := by
        refine ⟨HR2.out.1.congr (fun j hj => ?_), HR2.out.2⟩
        have hA := HAL.out
        rw [if_pos (by omega), ← hA.2.2.1, S_end, hA.2.2.2]
      have hltd : decide ((k : Int) ≤ (b.size : Int)) = false := decide_eq_false (by omega)
      clear HR2
      go_wp2
      clear hltd hlt hk
      go_loopw [7, 9] (fun pv i wr => ∃ q g : Nat, ∃ z : Int, q ≤ a.size ∧ i = .int .i64 z ∧ z = (q : Int) - 1 ∧ pv = .slice (some ⟨g, 0, none⟩) (b.size + 1) (b.size + 1) ∧ w.heap.size ≤ g ∧ Row g (b.size + 1) (S al bl q) wr ∧ Below w.heap.size w wr) (fun _ i _ => (intOf i + 1).toNat)
      case atStart => exact ⟨a.size, w.heap.size, _, Nat.le_refl _, rfl, rfl, rfl, Nat.le_refl _, HR3.out.1, HR3.out.2⟩
      case round =>
        clear HR3
        obtain ⟨q, g, z, hq, rfl, hz, rfl, hg, hrow, hbel⟩ := hrel
        have HR4 : Hid (Row g (b.size + 1) (S al bl q) wr ∧ Below w.heap.size w wr) := ⟨hrow, hbel⟩
        have hgl := hrow.lt
        clear hrow hbel
        cases q with
        | zero =>
          have hz' : z < 0 := by omega
          clear hz
          have c0 := HR4.out.1.cell 0 (by omega)
          rw [S_zero] at c0
          have hbb : (0 : Int) < (b.size : Int) + 1 := by omega
          go_wp2
          go_ret
          exact ⟨rfl, HR4.out.2⟩
        | succ p =>
          obtain rfl : z = (p : Int) := by omega
          clear hz
          have hlt : p < a.size := by omega
          have hlt' : (p : Int) < (a.size : Int) := by omega
          have hbb : (b.size : Int) < (b.size : Int) + 1 := by omega
          go_wp2_with (at_make; refine wpList_make_full _ rfl _ _ 92 rfl wr.heap.size 3 i0 (.int .i64 0) 1 Yba.underlying92 hi hz0 hz1 .i64 .i64 _ _ (b.size + 1) rfl rfl HC1.out.symm HC1.out.symm (by rw [hz2]; omega) (by unfold maxLen; omega) (Nat.le_refl _) ?_; intro w2 hown hgrow; have HR5 : Hid (Row g (b.size + 1) (S al bl (p + 1)) w2 ∧ Row wr.heap.size (b.size + 1) (fun _ => 0) w2 ∧ Below w.heap.size w w2) := ⟨HR4.out.1.grown hgrow, Row.made hown, HR4.out.2.grown hgrow HR4.out.2.size (fun k hk => by cases hk)⟩; clear hown hgrow HR4; have hcc := HR5.out.2.1.cell b.size (by omega); have hff := HR5.out.2.1.free b.size)
          clear hcc hff
          have ev : (a.size : Int) - (p : Int) = ((a.size - p : Nat) : Int) := by omega
          rw [ev]
          have HR6 : Hid (Row g (b.size + 1) (S al bl (p + 1)) (w2.setCell ⟨wr.heap.size, b.size, none⟩ (.int .i64 ((a.size - p : Nat) : Int))) ∧ Row wr.heap.size (b.size + 1) (fun j => if b.size ≤ j then S al bl p j else 0) (w2.setCell ⟨wr.heap.size, b.size, none⟩ (.int .i64 ((a.size - p : Nat) : Int))) ∧ Below w.heap.size w (w2.setCell ⟨wr.heap.size, b.size, none⟩ (.int .i64 ((a.size - p : Nat) : Int)))) := by
            obtain ⟨r1, r2, r3⟩ := HR5.out
            have hA := HAL.out
            refine ⟨r1.other _ _ (by simp; omega), (r2.set b.size (a.size - p)).congr (fun j hj => ?_), r3.setCell (by simp; omega) _⟩
            by_cases e : j = b.size
            · rw [if_pos e, if_pos (by omega), e, ← hA.2.2.2, S_end', hA.2.2.1]
            · rw [if_neg e, if_neg (by omega)]
          clear HR5 ev
          generalize w2.setCell ⟨wr.heap.size, b.size, none⟩ (.int .i64 ((a.size - p : Nat) : Int)) = w3 at *
          have hg2 : g ≠ wr.heap.size := by omega
          have hg3 : w.heap.size ≤ wr.heap.size := by omega
          generalize hgg : wr.heap.size = g2 at *
          have HGG : Hid (wr.heap.size = g2) := hgg
          clear hgg
          go_loopw [11] (fun jv wx => ∃ m : Nat, ∃ y : Int, m ≤ b.size ∧ jv = .int .i64 y ∧ y = (m : Int) - 1 ∧ Row g (b.size + 1) (S al bl (p + 1)) wx ∧ Row g2 (b.size + 1) (fun j => if m ≤ j then S al bl p j else 0) wx ∧ Below w.heap.size w wx) (fun jv _ => (intOf jv + 1).toNat)
          case atStart => exact ⟨b.size, _, Nat.le_refl _, rfl, rfl, HR6.out.1, HR6.out.2.1, HR6.out.2.2⟩
          case round =>
            clear HR6
            obtain ⟨m, y, hm, rfl, hy, r1, r2, r3⟩ := hrel
            have HR7 : Hid (Row g (b.size + 1) (S al bl (p + 1)) wr ∧ Row g2 (b.size + 1) (fun j => if m ≤ j then S al bl p j else 0) wr ∧ Below w.heap.size w wr) := ⟨r1, r2, r3⟩
            clear r1 r2 r3
            cases m with
            | zero =>
              have hy' : y < 0 := by omega
              clear hy
              have HR8 : Hid (Row g2 (b.size + 1) (S al bl p) wr ∧ Below w.heap.size w wr) := ⟨HR7.out.2.1.congr (fun j hj => by rw [if_pos (by omega)]), HR7.out.2.2⟩
              clear HR7
              go_wp2
              go_roundw
              case rel => exact ⟨p, g2, _, by omega, rfl, rfl, rfl, hg3, HR8.out.1, HR8.out.2⟩
              case measure => simp [intOf]
            | succ t =>
              obtain rfl : y = (t : Int) := by omega
              clear hy
              have hlm : t < b.size := by omega
              have hlm' : (t : Int) < (b.size : Int) := by omega
              have hlm1 : (t : Int) < (b.size : Int) + 1 := by omega
              have hlm2 : (t : Int) + 1 < (b.size : Int) + 1 := by omega
              have c0 := HR7.out.1.cell t (by omega)
              have c1 := HR7.out.1.cell (t + 1) (by omega)
              have d0 := HR7.out.2.1.cell t (by omega)
              have d1 := HR7.out.2.1.cell (t + 1) (by omega)
              have f1 := HR7.out.2.1.free t
              rw [if_neg (by omega)] at d0
              rw [if_pos (by omega)] at d1
              have hA := HAL.out
              have hp := S_succ al bl p t (by omega) (by omega)
              have hx0 := S_le al bl (p + 1) t
              have hx1 := S_le al bl (p + 1) (t + 1)
              have hx2 := S_le al bl p (t + 1)
              rw [hA.2.2.1, hA.2.2.2] at hx0 hx1 hx2
              have e1 : al[p]'(by omega) = a[p]'hlt := by simp only [hA.1]; rfl
              have e2 : bl[t]'(by omega) = b[t]'hlm := by simp only [hA.2.1]; rfl
              rw [e1, e2] at hp
              clear e1 e2 hA
              have HP : Hid (S al bl p t = min (S al bl (p + 1) (t + 1) + if a[p]'hlt = b[t]'hlm then 0 else 1) (min (S al bl (p + 1) t + 1) (S al bl p (t + 1) + 1))) := hp
              clear hp
              by_cases hab : a[p]'hlt = b[t]'hlm
              · have hne : (((a[p]'hlt).toNat : Int) != ((b[t]'hlm).toNat : Int)) = false := by simp [hab]
                have HAB : Hid (a[p]'hlt = b[t]'hlm) := hab
                clear hab
                generalize S al bl (p + 1) (t + 1) = p0 at *
                generalize S al bl (p + 1) t = p1 at *
                generalize S al bl p (t + 1) = e0 at *
                go_wp2
                go_quiet (fail)
                go_wp2
                all_goals
                  go_roundw
                  case rel => exact ⟨t, _, by omega, rfl, rfl, row_back HR7.out hg2 hg3 (by rw [HP.out, if_pos HAB.out]; omega)⟩
                  case measure => simp [intOf]
              · have hne : (((a[p]'hlt).toNat : Int) != ((b[t]'hlm).toNat : Int)) = true := u8_ne hab
                have HAB : Hid (¬ a[p]'hlt = b[t]'hlm) := hab
                clear hab
                generalize S al bl (p + 1) (t + 1) = p0 at *
                generalize S al bl (p + 1) t = p1 at *
                generalize S al bl p (t + 1) = e0 at *
                go_wp2
                go_quiet (fail)
                go_wp2
                all_goals
                  go_roundw
                  case rel => exact ⟨t, _, by omega, rfl, rfl, row_back HR7.out hg2 hg3 (by rw [HP.out, if_neg HAB.out]; omega)⟩
                  case measure => simp [intOf]

end Go.Proofs.Ybulkcxi
