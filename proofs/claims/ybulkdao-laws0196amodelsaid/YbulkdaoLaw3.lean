/-
  LawS0196AModel (function 3), walked.
-/
import Derived.Test.YbulkdaoLawPre
import Derived.Test.YbulkdaoMod
import Derived.Test.YbulkdaoRec
namespace Go.Proofs.Ybulkdao
open Go.RowKit
set_option maxRecDepth 10000 in
theorem law3 (p : Option Addr) (g o : Nat) (sp : Option Nat) (n cap : Nat) (O : Nat → Nat → Int) (w : World) (hp : 0 < n → p = some ⟨g, o, sp⟩ ∧ g < w.heap.size) (ho : OpRow g o sp n O w) (hr : ∀ i, i < n → ∀ j, j < 3 → 0 ≤ O i j ∧ O i j ≤ 255) (hn : n ≤ 1024) :
    Calls Yba.prog 3 #[.slice p n cap] w fun e w' => e = .returned (.bool true) ∧ Below w.heap.size w w' := by
  have hn'' : decide (1024 < n) = false := decide_eq_false (by omega)
  have HOP : Hid (OpRow g o sp n O w) := ho
  have HRG : Hid (∀ i, i < n → ∀ j, j < 3 → 0 ≤ O i j ∧ O i j ≤ 255) := hr
  have HP : Hid (0 < n → p = some ⟨g, o, sp⟩ ∧ g < w.heap.size) := hp
  clear ho hr hp
  obtain ⟨i0, hi, hz0, hz1, hz2⟩ := info_parts Yba.info31
  go_enter Yba.func3, Yba.ntmps3
  go_wp2_with (at_make; refine wpList_make_own _ rfl _ _ 23 rfl w.heap.size 31 i0 _ 9 Yba.underlying23 hi hz0 hz1 _ _ _ n rfl rfl (by first | rfl | omega) ?b2 ?b3 (Nat.le_refl _) ?_)
  case b2 => rw [hz2]; omega
  case b3 => unfold maxLen; omega
  intro w1 hown1 hgr1
  have HOWN1 : Hid (w1.ownsRow w.heap.size 31 9 (.slice (some ⟨w.heap.size, 0, none⟩) 0 n) 0 []) := hown1
  have HB1 : Hid (Below w.heap.size w w1) := (Below.refl _ _).grown hgr1 (Nat.le_refl _) (fun k h => by cases h)
  clear hown1 hgr1
  go_wp2_with fail
  go_loopg [3, 16] n (fun gn sv iv wr => ∃ (m : Nat) (xs : List Value), gn = n - m ∧ m ≤ n ∧ sv = .slice (some ⟨w.heap.size, 0, none⟩) m n ∧ iv = .int .i64 m ∧ wr.ownsRow w.heap.size 31 9 (.slice (some ⟨w.heap.size, 0, none⟩) m n) m xs ∧ StList xs m (stepOf O) ∧ Below w.heap.size w wr)
  case atStart => exact ⟨0, [], rfl, Nat.zero_le _, rfl, rfl, HOWN1.out, StList.nil _, HB1.out⟩
  case round =>
    clear HOWN1 HB1
    obtain ⟨m, xs, hgm, hm, rfl, rfl, hown, hl, hbel⟩ := hrel
    have HGM : Hid (gk = n - m) := hgm
    have HOWN : Hid (wr.ownsRow w.heap.size 31 9 (.slice (some ⟨w.heap.size, 0, none⟩) m n) m xs) := hown
    have HL : Hid (StList xs m (stepOf O)) := hl
    have HB : Hid (Below w.heap.size w wr) := hbel
    clear hgm hown hl hbel
    by_cases hlt : m < n
    · have hlt' : (m : Int) < (n : Int) := by omega
      obtain ⟨rfl, hg⟩ := HP.out (by omega)
      have hor := HOP.out.below HB.out hg
      have o0 := hor.cell m hlt 0 (by omega)
      have o1 := hor.cell m hlt 1 (by omega)
      have o2 := hor.cell m hlt 2 (by omega)
      obtain ⟨l0, u0⟩ := HRG.out m hlt 0 (by omega)
      obtain ⟨l1, u1⟩ := HRG.out m hlt 1 (by omega)
      obtain ⟨l2, u2⟩ := HRG.out m hlt 2 (by omega)
      simp only [Nat.add_zero] at o0
      have hsp : sp = none := World.cell?_spot o0
      subst hsp
      clear hor
      go_upto_region 7 with fail
      have HB2 : Hid (Below w.heap.size w (wr.alloc (.cells #[.int .u8 (O m 0), .int .u8 (O m 1), .int .u8 (O m 2)] 25))) := HB.out.alloc HB.out.size _
      have HO2 : Hid ((wr.alloc (.cells #[.int .u8 (O m 0), .int .u8 (O m 1), .int .u8 (O m 2)] 25)).ownsRow w.heap.size 31 9 (.slice (some ⟨w.heap.size, 0, none⟩) m n) m xs) := HOWN.out.alloc _
      have hbk : (wr.alloc (.cells #[.int .u8 (O m 0), .int .u8 (O m 1), .int .u8 (O m 2)] 25)).heap[wr.heap.size]? = some (.cells #[.int .u8 (O m 0), .int .u8 (O m 1), .int .u8 (O m 2)] 25 (0, 0)) := by show (wr.heap.push _)[wr.heap.size]? = _; simp
      change Code.wp _ _ _ _ (wr.alloc (.cells #[.int .u8 (O m 0), .int .u8 (O m 1), .int .u8 (O m 2)] 25))
      have HBO : Hid (w.heap.size ≤ wr.heap.size) := HB.out.size
      clear o0 o1 o2 HB HOWN
      generalize wr.alloc (.cells #[.int .u8 (O m 0), .int .u8 (O m 1), .int .u8 (O m 2)] 25) = w2 at *
      generalize wr.heap.size = bo at *
      have p0 : w2.cell? ⟨bo, 0, none⟩ = some (.int .u8 (O m 0)) := by simp [World.cell?, hbk]
      have p1 : w2.cell? ⟨bo, 1, none⟩ = some (.int .u8 (O m 1)) := by simp [World.cell?, hbk]
      have p2 : w2.cell? ⟨bo, 2, none⟩ = some (.int .u8 (O m 2)) := by simp [World.cell?, hbk]
      have HBK : Hid _ := hbk
      clear hbk
      go_wp2_with fail
      refine (kind5 (O m 0) w2 l0 u0).mono ?_
      rintro e w3 ⟨rfl, rfl⟩
      have HST : Hid (stepOf O m = { kd := kindOf (O m 0), tx := O m 1 % 4, ky := if kindOf (O m 0) = 1 ∨ kindOf (O m 0) = 2 then keyOf3 (O m 2) else ⟨#[]⟩, px := ⟨#[]⟩ }) := rfl
      have hkr := kindOf_rng (O m 0)
      generalize kindOf (O m 0) = kk at *
      go_upto_region 9 with fail
      change Code.wp _ _ _ _ (w2.alloc (stepObj { kd := kk, tx := O m 1 % 4, ky := ⟨#[]⟩, px := ⟨#[]⟩ }))
      have HS1 : Hid (StepAt w2.heap.size { kd := kk, tx := O m 1 % 4, ky := ⟨#[]⟩, px := ⟨#[]⟩ } (w2.alloc (stepObj { kd := kk, tx := O m 1 % 4, ky := ⟨#[]⟩, px := ⟨#[]⟩ }))) := StepAt.new _ _
      have HB4 : Hid (Below w.heap.size w (w2.alloc (stepObj { kd := kk, tx := O m 1 % 4, ky := ⟨#[]⟩, px := ⟨#[]⟩ }))) := HB2.out.alloc HB2.out.size _
      have HO4 : Hid ((w2.alloc (stepObj { kd := kk, tx := O m 1 % 4, ky := ⟨#[]⟩, px := ⟨#[]⟩ })).ownsRow w.heap.size 31 9 (.slice (some ⟨w.heap.size, 0, none⟩) m n) m xs) := HO2.out.alloc _
      have p2 : (w2.alloc (stepObj { kd := kk, tx := O m 1 % 4, ky := ⟨#[]⟩, px := ⟨#[]⟩ })).cell? ⟨bo, 2, none⟩ = some (.int .u8 (O m 2)) := by
        have := blk_kept (World.grownBy_alloc w2 (stepObj { kd := kk, tx := O m 1 % 4, ky := ⟨#[]⟩, px := ⟨#[]⟩ }) none) (by simp) HBK.out
        simp [World.cell?, this]
      have hne : w.heap.size ≠ w2.heap.size := by have := lt_of_block HBK.out; have := HBO.out; omega
      have HBO2 : Hid (w.heap.size < w2.heap.size) := by show w.heap.size < w2.heap.size; have := HB2.out.size; omega
      clear p0 p1 HBK HB2 HO2 HBO
      generalize w2.alloc (stepObj { kd := kk, tx := O m 1 % 4, ky := ⟨#[]⟩, px := ⟨#[]⟩ }) = w4 at *
      generalize w2.heap.size = bs at *
      rcases hkr with rfl | rfl | rfl | rfl
      · have hfz : w4.frozen? ⟨bs, 2, none⟩ = false := by simp [World.frozen?, HS1.out.blk]
        have hc2 : w4.cell? ⟨bs, 2, none⟩ = some (.string ⟨#[]⟩) := HS1.out.c2
        go_wp2_with fail
        refine (key6 (O m 2) w4 l2 u2).mono ?_
        rintro e w3 ⟨rfl, rfl⟩
        go_upto_region 11 with fail
        have HS2 : Hid (StepAt bs (stepOf O m) (w4.setCell ⟨bs, 2, none⟩ (.string (keyOf3 (O m 2))))) := by
          refine ⟨(set_blk HS1.out.blk 2 _).trans ?_⟩
          rw [HST.out]
          simp
        have HB5 : Hid (Below w.heap.size w (w4.setCell ⟨bs, 2, none⟩ (.string (keyOf3 (O m 2))))) := HB4.out.setCell (by simp; have := HBO2.out; omega) _
        have HO5 : Hid ((w4.setCell ⟨bs, 2, none⟩ (.string (keyOf3 (O m 2)))).ownsRow w.heap.size 31 9 (.slice (some ⟨w.heap.size, 0, none⟩) m n) m xs) := HO4.out.kept (grown_setCell _ _ _) (.inr (by simpa [Value.ownBlock] using hne))
        clear hfz hc2 HB4 HO4 p2
        generalize w4.setCell ⟨bs, 2, none⟩ (.string (keyOf3 (O m 2))) = w5 at *
        clear HS1
        have t0 := HS2.out.c0
        have t1 := HS2.out.c1
        have t2 := HS2.out.c2
        have hb5 := HS2.out.blk
        have t3 : w5.cell? ⟨bs, 3, none⟩ = some (.string ⟨#[]⟩) := by simp [World.cell?, hb5, stepOf]
        have t4 : w5.cell? ⟨bs, 4, none⟩ = some (.string ⟨#[]⟩) := by simp [World.cell?, hb5]
        have t5 : w5.cell? ⟨bs, 5, none⟩ = some (.int .u8 0) := by simp [World.cell?, hb5]
        have t6 : w5.cell? ⟨bs, 6, none⟩ = some (.int .i64 0) := by simp [World.cell?, hb5]
        have t7 : w5.cell? ⟨bs, 7, none⟩ = some (.int .i64 0) := by simp [World.cell?, hb5]
        have t8 : w5.cell? ⟨bs, 8, none⟩ = some (.string ⟨#[]⟩) := by simp [World.cell?, hb5]
        have HPX : Hid ((stepOf O m).px = ⟨#[]⟩) := rfl
        generalize hss : stepOf O m = ss at *
        clear hb5
        have hnew := news_step ss w5
        have hone := one_step ss
        have hown6 := HO5.out.alloc (.cells #[.int .u8 ss.kd, .int .i64 ss.tx, .string ss.ky, .string ss.px, .string ⟨#[]⟩, .int .u8 0, .int .i64 0, .int .i64 0, .string ⟨#[]⟩] 31 (0, 0))
        rw [HPX.out] at hnew hown6
        go_wp2_with (at_builtin; refine wpList_append_fits _ rfl _ _ 23 rfl w.heap.size 31 i0 9 Yba.underlying23 hi hz1 w.heap.size m n xs rfl hown6 ⟨w5.heap.size, 0, none⟩ 1 1 (stCells ss) rfl rfl hnew hone (by omega) ?_)
        intro w7 hown7 hgr7
        have HOWN7 : Hid (w7.ownsRow w.heap.size 31 9 (.slice (some ⟨w.heap.size, 0, none⟩) (m + 1) n) (m + 1) (xs ++ stCells ss)) := hown7
        have HB7 : Hid (Below w.heap.size w w7) := (HB5.out.alloc HB5.out.size _).grown hgr7 (by have := HB5.out.size; simp; omega) (fun k hk => by cases hk; exact Nat.le_refl _)
        have HL7 : Hid (StList (xs ++ stCells ss) (m + 1) (stepOf O)) := HL.out.snoc ss hss
        clear hown7 hgr7 hnew hone hown6 t0 t1 t2 t3 t4 t5 t6 t7 t8
        go_wp2_with fail
        go_roundg (n - (m + 1))
        case measure => rw [HGM.out]; omega
        case rel => exact ⟨m + 1, _, rfl, by omega, by go_num, by go_num, HOWN7.out, HL7.out, HB7.out⟩
      · have hfz : w4.frozen? ⟨bs, 2, none⟩ = false := by simp [World.frozen?, HS1.out.blk]
        have hc2 : w4.cell? ⟨bs, 2, none⟩ = some (.string ⟨#[]⟩) := HS1.out.c2
        go_wp2_with fail
        refine (key6 (O m 2) w4 l2 u2).mono ?_
        rintro e w3 ⟨rfl, rfl⟩
        go_upto_region 11 with fail
        have HS2 : Hid (StepAt bs (stepOf O m) (w4.setCell ⟨bs, 2, none⟩ (.string (keyOf3 (O m 2))))) := by
          refine ⟨(set_blk HS1.out.blk 2 _).trans ?_⟩
          rw [HST.out]
          simp
        have HB5 : Hid (Below w.heap.size w (w4.setCell ⟨bs, 2, none⟩ (.string (keyOf3 (O m 2))))) := HB4.out.setCell (by simp; have := HBO2.out; omega) _
        have HO5 : Hid ((w4.setCell ⟨bs, 2, none⟩ (.string (keyOf3 (O m 2)))).ownsRow w.heap.size 31 9 (.slice (some ⟨w.heap.size, 0, none⟩) m n) m xs) := HO4.out.kept (grown_setCell _ _ _) (.inr (by simpa [Value.ownBlock] using hne))
        clear hfz hc2 HB4 HO4 p2
        generalize w4.setCell ⟨bs, 2, none⟩ (.string (keyOf3 (O m 2))) = w5 at *
        clear HS1
        have t0 := HS2.out.c0
        have t1 := HS2.out.c1
        have t2 := HS2.out.c2
        have hb5 := HS2.out.blk
        have t3 : w5.cell? ⟨bs, 3, none⟩ = some (.string ⟨#[]⟩) := by simp [World.cell?, hb5, stepOf]
        have t4 : w5.cell? ⟨bs, 4, none⟩ = some (.string ⟨#[]⟩) := by simp [World.cell?, hb5]
        have t5 : w5.cell? ⟨bs, 5, none⟩ = some (.int .u8 0) := by simp [World.cell?, hb5]
        have t6 : w5.cell? ⟨bs, 6, none⟩ = some (.int .i64 0) := by simp [World.cell?, hb5]
        have t7 : w5.cell? ⟨bs, 7, none⟩ = some (.int .i64 0) := by simp [World.cell?, hb5]
        have t8 : w5.cell? ⟨bs, 8, none⟩ = some (.string ⟨#[]⟩) := by simp [World.cell?, hb5]
        have HPX : Hid ((stepOf O m).px = ⟨#[]⟩) := rfl
        generalize hss : stepOf O m = ss at *
        clear hb5
        have hnew := news_step ss w5
        have hone := one_step ss
        have hown6 := HO5.out.alloc (.cells #[.int .u8 ss.kd, .int .i64 ss.tx, .string ss.ky, .string ss.px, .string ⟨#[]⟩, .int .u8 0, .int .i64 0, .int .i64 0, .string ⟨#[]⟩] 31 (0, 0))
        rw [HPX.out] at hnew hown6
        go_wp2_with (at_builtin; refine wpList_append_fits _ rfl _ _ 23 rfl w.heap.size 31 i0 9 Yba.underlying23 hi hz1 w.heap.size m n xs rfl hown6 ⟨w5.heap.size, 0, none⟩ 1 1 (stCells ss) rfl rfl hnew hone (by omega) ?_)
        intro w7 hown7 hgr7
        have HOWN7 : Hid (w7.ownsRow w.heap.size 31 9 (.slice (some ⟨w.heap.size, 0, none⟩) (m + 1) n) (m + 1) (xs ++ stCells ss)) := hown7
        have HB7 : Hid (Below w.heap.size w w7) := (HB5.out.alloc HB5.out.size _).grown hgr7 (by have := HB5.out.size; simp; omega) (fun k hk => by cases hk; exact Nat.le_refl _)
        have HL7 : Hid (StList (xs ++ stCells ss) (m + 1) (stepOf O)) := HL.out.snoc ss hss
        clear hown7 hgr7 hnew hone hown6 t0 t1 t2 t3 t4 t5 t6 t7 t8
        go_wp2_with fail
        go_roundg (n - (m + 1))
        case measure => rw [HGM.out]; omega
        case rel => exact ⟨m + 1, _, rfl, by omega, by go_num, by go_num, HOWN7.out, HL7.out, HB7.out⟩
      · go_upto_region 11 with fail
        have HS2 : Hid (StepAt bs (stepOf O m) w4) := by
          refine ⟨HS1.out.blk.trans ?_⟩
          rw [HST.out]
          simp
        have HB5 := HB4
        have HO5 := HO4
        clear HB4 HO4 p2
        generalize w4 = w5 at *
        clear HS1
        have t0 := HS2.out.c0
        have t1 := HS2.out.c1
        have t2 := HS2.out.c2
        have hb5 := HS2.out.blk
        have t3 : w5.cell? ⟨bs, 3, none⟩ = some (.string ⟨#[]⟩) := by simp [World.cell?, hb5, stepOf]
        have t4 : w5.cell? ⟨bs, 4, none⟩ = some (.string ⟨#[]⟩) := by simp [World.cell?, hb5]
        have t5 : w5.cell? ⟨bs, 5, none⟩ = some (.int .u8 0) := by simp [World.cell?, hb5]
        have t6 : w5.cell? ⟨bs, 6, none⟩ = some (.int .i64 0) := by simp [World.cell?, hb5]
        have t7 : w5.cell? ⟨bs, 7, none⟩ = some (.int .i64 0) := by simp [World.cell?, hb5]
        have t8 : w5.cell? ⟨bs, 8, none⟩ = some (.string ⟨#[]⟩) := by simp [World.cell?, hb5]
        have HPX : Hid ((stepOf O m).px = ⟨#[]⟩) := rfl
        generalize hss : stepOf O m = ss at *
        clear hb5
        have hnew := news_step ss w5
        have hone := one_step ss
        have hown6 := HO5.out.alloc (.cells #[.int .u8 ss.kd, .int .i64 ss.tx, .string ss.ky, .string ss.px, .string ⟨#[]⟩, .int .u8 0, .int .i64 0, .int .i64 0, .string ⟨#[]⟩] 31 (0, 0))
        rw [HPX.out] at hnew hown6
        go_wp2_with (at_builtin; refine wpList_append_fits _ rfl _ _ 23 rfl w.heap.size 31 i0 9 Yba.underlying23 hi hz1 w.heap.size m n xs rfl hown6 ⟨w5.heap.size, 0, none⟩ 1 1 (stCells ss) rfl rfl hnew hone (by omega) ?_)
        intro w7 hown7 hgr7
        have HOWN7 : Hid (w7.ownsRow w.heap.size 31 9 (.slice (some ⟨w.heap.size, 0, none⟩) (m + 1) n) (m + 1) (xs ++ stCells ss)) := hown7
        have HB7 : Hid (Below w.heap.size w w7) := (HB5.out.alloc HB5.out.size _).grown hgr7 (by have := HB5.out.size; simp; omega) (fun k hk => by cases hk; exact Nat.le_refl _)
        have HL7 : Hid (StList (xs ++ stCells ss) (m + 1) (stepOf O)) := HL.out.snoc ss hss
        clear hown7 hgr7 hnew hone hown6 t0 t1 t2 t3 t4 t5 t6 t7 t8
        go_wp2_with fail
        go_roundg (n - (m + 1))
        case measure => rw [HGM.out]; omega
        case rel => exact ⟨m + 1, _, rfl, by omega, by go_num, by go_num, HOWN7.out, HL7.out, HB7.out⟩
      · go_upto_region 11 with fail
        have HS2 : Hid (StepAt bs (stepOf O m) w4) := by
          refine ⟨HS1.out.blk.trans ?_⟩
          rw [HST.out]
          simp
        have HB5 := HB4
        have HO5 := HO4
        clear HB4 HO4 p2
        generalize w4 = w5 at *
        clear HS1
        have t0 := HS2.out.c0
        have t1 := HS2.out.c1
        have t2 := HS2.out.c2
        have hb5 := HS2.out.blk
        have t3 : w5.cell? ⟨bs, 3, none⟩ = some (.string ⟨#[]⟩) := by simp [World.cell?, hb5, stepOf]
        have t4 : w5.cell? ⟨bs, 4, none⟩ = some (.string ⟨#[]⟩) := by simp [World.cell?, hb5]
        have t5 : w5.cell? ⟨bs, 5, none⟩ = some (.int .u8 0) := by simp [World.cell?, hb5]
        have t6 : w5.cell? ⟨bs, 6, none⟩ = some (.int .i64 0) := by simp [World.cell?, hb5]
        have t7 : w5.cell? ⟨bs, 7, none⟩ = some (.int .i64 0) := by simp [World.cell?, hb5]
        have t8 : w5.cell? ⟨bs, 8, none⟩ = some (.string ⟨#[]⟩) := by simp [World.cell?, hb5]
        have HPX : Hid ((stepOf O m).px = ⟨#[]⟩) := rfl
        generalize hss : stepOf O m = ss at *
        clear hb5
        have hnew := news_step ss w5
        have hone := one_step ss
        have hown6 := HO5.out.alloc (.cells #[.int .u8 ss.kd, .int .i64 ss.tx, .string ss.ky, .string ss.px, .string ⟨#[]⟩, .int .u8 0, .int .i64 0, .int .i64 0, .string ⟨#[]⟩] 31 (0, 0))
        rw [HPX.out] at hnew hown6
        go_wp2_with (at_builtin; refine wpList_append_fits _ rfl _ _ 23 rfl w.heap.size 31 i0 9 Yba.underlying23 hi hz1 w.heap.size m n xs rfl hown6 ⟨w5.heap.size, 0, none⟩ 1 1 (stCells ss) rfl rfl hnew hone (by omega) ?_)
        intro w7 hown7 hgr7
        have HOWN7 : Hid (w7.ownsRow w.heap.size 31 9 (.slice (some ⟨w.heap.size, 0, none⟩) (m + 1) n) (m + 1) (xs ++ stCells ss)) := hown7
        have HB7 : Hid (Below w.heap.size w w7) := (HB5.out.alloc HB5.out.size _).grown hgr7 (by have := HB5.out.size; simp; omega) (fun k hk => by cases hk; exact Nat.le_refl _)
        have HL7 : Hid (StList (xs ++ stCells ss) (m + 1) (stepOf O)) := HL.out.snoc ss hss
        clear hown7 hgr7 hnew hone hown6 t0 t1 t2 t3 t4 t5 t6 t7 t8
        go_wp2_with fail
        go_roundg (n - (m + 1))
        case measure => rw [HGM.out]; omega
        case rel => exact ⟨m + 1, _, rfl, by omega, by go_num, by go_num, HOWN7.out, HL7.out, HB7.out⟩
    · have hme : m = n := by omega
      subst hme
      obtain ⟨_, hgl⟩ := own_block HOWN.out rfl
      have hrow : StRow w.heap.size m (stepOf O) wr := HL.out.row HOWN.out
      have hpl := plain_stepOf O m
      have HR7 : Hid (Calls Yba.prog 7 #[.slice (some ⟨w.heap.size, 0, none⟩) m m] wr fun e w' => e = .returned (.agg #[.bool (sigR (stepOf O) m).rcv, .bool (sigR (stepOf O) m).cas, .bool (sigR (stepOf O) m).str]) ∧ Below wr.heap.size wr w') := by
        refine rec7 _ w.heap.size m m (stepOf O) wr (by omega) hpl.kd (fun w' hb hsz => ?_)
        refine (reads_plain w.heap.size m m (stepOf O) w' (by omega) (hrow.below hb hgl) (by have := hb.size; omega) (fun i hi => by rcases hpl.kd i hi with h | h | h | h <;> rw [h] <;> decide)).mono ?_
        rintro e w2 ⟨rfl, hb2⟩
        have h1 := hb.size
        have h2 := hb2.size
        exact ⟨rfl, hb2, (hrow.below hb hgl).below hb2 (by omega), .inl hgl, by omega⟩
      rw [(law hpl).1, (law hpl).2.1, (law hpl).2.2] at HR7
      have HM8 : Hid (∀ w2, Below wr.heap.size wr w2 → Calls Yba.prog 8 #[.slice (some ⟨w.heap.size, 0, none⟩) m m] w2 fun e w' => e = .returned (.agg #[.bool (modR (stepOf O) m), .bool (modC (stepOf O) m), .bool (modS (stepOf O) m)]) ∧ Below w2.heap.size w2 w') := fun w2 hb2 => mod8 _ m m (stepOf O) w2 (by omega) (hrow.below hb2 hgl) (by have := hb2.size; omega) hpl
      have hdd : decide ((m : Int) < (m : Int)) = false := decide_eq_false (by omega)
      clear hrow hpl hgl HL HOWN hlt
      go_wp2_with fail
      refine (HR7.out).mono ?_
      rintro e w2 ⟨rfl, hb2⟩
      have HB2 : Hid (Below wr.heap.size wr w2) := hb2
      clear hb2
      go_wp2_with fail
      refine (HM8.out w2 HB2.out).mono ?_
      rintro e w3 ⟨rfl, hb3⟩
      have HB3 : Hid (Below w.heap.size w w3) := by
        have h1 := HB.out.size
        have h2 := HB2.out.size
        exact (HB.out.trans (HB2.out.mono h1)).trans (hb3.mono (by omega))
      clear hb3 HM8 HR7
      generalize modR (stepOf O) m = x at *
      generalize modC (stepOf O) m = y at *
      generalize modS (stepOf O) m = z at *
      go_wp2_with fail
      go_ret
      exact ⟨rfl, HB3.out⟩

/-- More than 1024 ops: true at once. -/
theorem law3_big (p : Option Addr) (n cap : Nat) (w : World) (hn : 1024 < n) : Calls Yba.prog 3 #[.slice p n cap] w fun e w' => e = .returned (.bool true) ∧ Below w.heap.size w w' := by
  have hn' : (1024 : Int) < (n : Int) := by omega
  go_enter Yba.func3, Yba.ntmps3
  go_wp2_with fail
  go_ret
  exact ⟨rfl, Below.refl _ _⟩
end Go.Proofs.Ybulkdao
