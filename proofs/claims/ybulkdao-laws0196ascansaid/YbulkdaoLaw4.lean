/-
  LawS0196AScan (function 4), walked.
-/
import Derived.Test.YbulkdaoScanPre
namespace Go.Proofs.Ybulkdao
open Go.RowKit
set_option maxRecDepth 10000 in
set_option maxHeartbeats 3200000 in
theorem law4 (p : Option Addr) (g o : Nat) (sp : Option Nat) (n cap : Nat) (O : Nat → Nat → Int) (w : World) (hp : 0 < n → p = some ⟨g, o, sp⟩ ∧ g < w.heap.size) (ho : OpRow g o sp n O w) (hr : ∀ i, i < n → ∀ j, j < 3 → 0 ≤ O i j ∧ O i j ≤ 255) (hn : n ≤ 1024) :
    Calls Yba.prog 4 #[.slice p n cap] w fun e w' => e = .returned (.bool true) ∧ Below w.heap.size w w' := by
  have hn'' : decide (1024 < n) = false := decide_eq_false (by omega)
  have HOP : Hid (OpRow g o sp n O w) := ho
  have HRG : Hid (∀ i, i < n → ∀ j, j < 3 → 0 ≤ O i j ∧ O i j ≤ 255) := hr
  have HP : Hid (0 < n → p = some ⟨g, o, sp⟩ ∧ g < w.heap.size) := hp
  have HSC : Hid (∀ i, Scs (stepS O i)) := scs_stepS O
  clear ho hr hp
  obtain ⟨i0, hi, hz0, hz1, hz2⟩ := info_parts Yba.info31
  go_enter Yba.func4, Yba.ntmps4
  go_upto_region 4 with fail
  change Code.wp _ _ _ _ (w.alloc (.cells #[.bool false, .bool false, .bool false] 37 (0, 0)))
  have HPR1 : Hid (PresAt w.heap.size (namedB (stepS O) 0) (w.alloc (.cells #[.bool false, .bool false, .bool false] 37 (0, 0)))) := ⟨by show (w.heap.push _)[w.heap.size]? = _; simp [namedB]⟩
  have HB1 : Hid (Below w.heap.size w (w.alloc (.cells #[.bool false, .bool false, .bool false] 37 (0, 0)))) := (Below.refl _ _).alloc (Nat.le_refl _) _
  have HBP : Hid (w.heap.size < (w.alloc (.cells #[.bool false, .bool false, .bool false] 37 (0, 0))).heap.size) := by show w.heap.size < (w.heap.push _).size; simp
  generalize w.alloc (.cells #[.bool false, .bool false, .bool false] 37 (0, 0)) = w1 at *
  go_wp2_with (at_make; refine wpList_make_own _ rfl _ _ 23 rfl w1.heap.size 31 i0 _ 9 Yba.underlying23 hi hz0 hz1 _ _ _ n rfl rfl (by first | rfl | omega) ?b2 ?b3 (Nat.le_refl _) ?_)
  case b2 => rw [hz2]; omega
  case b3 => unfold maxLen; omega
  intro w2 hown2 hgr2
  have HOWN2 : Hid (w2.ownsRow w1.heap.size 31 9 (.slice (some ⟨w1.heap.size, 0, none⟩) 0 n) 0 []) := hown2
  have HB2 : Hid (Below w.heap.size w w2) := HB1.out.grown hgr2 HB1.out.size (fun k h => by cases h)
  have HPR2 : Hid (PresAt w.heap.size (namedB (stepS O) 0) w2) := HPR1.out.kept hgr2 (by simp)
  clear hown2 hgr2 HPR1 HB1
  generalize w1.heap.size = gs at *
  go_wp2_with fail
  go_loopg [4, 23] n (fun gn sv iv wr => ∃ (m : Nat) (xs : List Value), gn = n - m ∧ m ≤ n ∧ sv = .slice (some ⟨gs, 0, none⟩) m n ∧ iv = .int .i64 m ∧ wr.ownsRow gs 31 9 (.slice (some ⟨gs, 0, none⟩) m n) m xs ∧ StList xs m (stepS O) ∧ PresAt w.heap.size (namedB (stepS O) m) wr ∧ Below w.heap.size w wr)
  case atStart => exact ⟨0, [], rfl, Nat.zero_le _, rfl, rfl, HOWN2.out, StList.nil _, HPR2.out, HB2.out⟩
  case round =>
    clear HOWN2 HB2 HPR2
    obtain ⟨m, xs, hgm, hm, rfl, rfl, hown, hl, hpr, hbel⟩ := hrel
    have HGM : Hid (gk = n - m) := hgm
    have HOWN : Hid (wr.ownsRow gs 31 9 (.slice (some ⟨gs, 0, none⟩) m n) m xs) := hown
    have HL : Hid (StList xs m (stepS O)) := hl
    have HPR : Hid (PresAt w.heap.size (namedB (stepS O) m) wr) := hpr
    have HB : Hid (Below w.heap.size w wr) := hbel
    clear hgm hown hl hbel hpr
    by_cases hlt : m < n
    · have hlt' : (m : Int) < (n : Int) := by omega
      obtain ⟨rfl, hg⟩ := HP.out (by omega)
      have hor := HOP.out.below HB.out hg
      have o0 := hor.cell m hlt 0 (by omega)
      have o1 := hor.cell m hlt 1 (by omega)
      have o2 := hor.cell m hlt 2 (by omega)
      obtain ⟨l0, u0⟩ := HRG.out m hlt 0 (by omega)
      obtain ⟨l1, u1⟩ := HRG.out m hlt 1 (by omega)
      obtain ⟨l2, u2⟩ := HRG.out m hlt 2 (by omega)
      simp only [Nat.add_zero] at o0
      have hsp : sp = none := World.cell?_spot o0
      subst hsp
      clear hor
      go_upto_region 8 with fail
      have HB2 : Hid (Below w.heap.size w (wr.alloc (.cells #[.int .u8 (O m 0), .int .u8 (O m 1), .int .u8 (O m 2)] 25))) := HB.out.alloc HB.out.size _
      have HO2 : Hid ((wr.alloc (.cells #[.int .u8 (O m 0), .int .u8 (O m 1), .int .u8 (O m 2)] 25)).ownsRow gs 31 9 (.slice (some ⟨gs, 0, none⟩) m n) m xs) := HOWN.out.alloc _
      have HP2 : Hid (PresAt w.heap.size (namedB (stepS O) m) (wr.alloc (.cells #[.int .u8 (O m 0), .int .u8 (O m 1), .int .u8 (O m 2)] 25))) := HPR.out.kept (World.grownBy_alloc _ _ none) (by simp)
      have hbk : (wr.alloc (.cells #[.int .u8 (O m 0), .int .u8 (O m 1), .int .u8 (O m 2)] 25)).heap[wr.heap.size]? = some (.cells #[.int .u8 (O m 0), .int .u8 (O m 1), .int .u8 (O m 2)] 25 (0, 0)) := by show (wr.heap.push _)[wr.heap.size]? = _; simp
      change Code.wp _ _ _ _ (wr.alloc (.cells #[.int .u8 (O m 0), .int .u8 (O m 1), .int .u8 (O m 2)] 25))
      have HGS : Hid (gs < wr.heap.size) := (own_block HOWN.out rfl).2
      clear o0 o1 o2 HB HOWN HPR
      generalize wr.alloc (.cells #[.int .u8 (O m 0), .int .u8 (O m 1), .int .u8 (O m 2)] 25) = w2 at *
      generalize wr.heap.size = bo at *
      have p0 : w2.cell? ⟨bo, 0, none⟩ = some (.int .u8 (O m 0)) := by simp [World.cell?, hbk]
      have p1 : w2.cell? ⟨bo, 1, none⟩ = some (.int .u8 (O m 1)) := by simp [World.cell?, hbk]
      have p2 : w2.cell? ⟨bo, 2, none⟩ = some (.int .u8 (O m 2)) := by simp [World.cell?, hbk]
      have HBK : Hid (w2.heap[bo]? = some (.cells #[.int .u8 (O m 0), .int .u8 (O m 1), .int .u8 (O m 2)] 25 (0, 0))) := hbk
      clear hbk
      have HBO : Hid (bo < w2.heap.size) := lt_of_block HBK.out
      by_cases hsc : O m 0 % 5 = 4
      · have HST : Hid (stepS O m = { kd := 3, tx := O m 1 % 4, ky := ⟨#[]⟩, px := pfxOf3 (O m 2) }) := by show stepS O m = _; unfold stepS; exact if_pos hsc
        go_wp2_with fail
        refine (pfx9 (O m 2) w2 l2 u2).mono ?_
        rintro e w3 ⟨rfl, rfl⟩
        generalize pfxOf3 (O m 2) = px at *
        have hnew := news_step { kd := 3, tx := O m 1 % 4, ky := ⟨#[]⟩, px := px } w2
        have hone := one_step { kd := 3, tx := O m 1 % 4, ky := ⟨#[]⟩, px := px }
        have hown6 := HO2.out.alloc (.cells #[.int .u8 3, .int .i64 (O m 1 % 4), .string ⟨#[]⟩, .string px, .string ⟨#[]⟩, .int .u8 0, .int .i64 0, .int .i64 0, .string ⟨#[]⟩] 31 (0, 0))
        dsimp only at hnew
        go_wp2_with (at_builtin; refine wpList_append_fits _ rfl _ _ 23 rfl gs 31 i0 9 Yba.underlying23 hi hz1 gs m n xs rfl hown6 ⟨w2.heap.size, 0, none⟩ 1 1 (stCells { kd := 3, tx := O m 1 % 4, ky := ⟨#[]⟩, px := px }) rfl rfl hnew hone (by omega) ?_)
        intro w7 hown7 hgr7
        have HOWN7 : Hid (w7.ownsRow gs 31 9 (.slice (some ⟨gs, 0, none⟩) (m + 1) n) (m + 1) (xs ++ stCells { kd := 3, tx := O m 1 % 4, ky := ⟨#[]⟩, px := px })) := hown7
        have HB7 : Hid (Below w.heap.size w w7) := (HB2.out.alloc HB2.out.size _).grown hgr7 (by have := HB2.out.size; simp; omega) (fun k hk => by cases hk; have := HBP.out; omega)
        have HL7 : Hid (StList (xs ++ stCells { kd := 3, tx := O m 1 % 4, ky := ⟨#[]⟩, px := px }) (m + 1) (stepS O)) := HL.out.snoc _ HST.out
        have HP7 : Hid (PresAt w.heap.size (namedB (stepS O) (m + 1)) w7) := ((HP2.out.kept (World.grownBy_alloc _ _ none) (by simp)).kept hgr7 (by have := HBP.out; simp; omega)).congr (named_none (by rw [HST.out]))
        clear hown7 hgr7 hnew hone hown6 p0 p1 p2
        go_wp2_with fail
        go_roundg (n - (m + 1))
        case measure => rw [HGM.out]; omega
        case rel => exact ⟨m + 1, _, rfl, by omega, by go_num, by go_num, HOWN7.out, HL7.out, HP7.out, HB7.out⟩
      · have hm5 : 0 ≤ O m 0 % 5 ∧ O m 0 % 5 ≤ 255 := by omega
        have HST : Hid (stepS O m = { kd := kindOf (O m 0 % 5), tx := O m 1 % 4, ky := if kindOf (O m 0 % 5) = 1 ∨ kindOf (O m 0 % 5) = 2 then keyOf3 (O m 2) else ⟨#[]⟩, px := ⟨#[]⟩ }) := by show stepS O m = _; unfold stepS; exact if_neg hsc
        go_wp2_with fail
        refine (kind5 (O m 0 % 5) w2 hm5.1 hm5.2).mono ?_
        rintro e w3 ⟨rfl, rfl⟩
        have hkr := kindOf_rng (O m 0 % 5)
        generalize kindOf (O m 0 % 5) = kk at *
        go_upto_region 12 with fail
        change Code.wp _ _ _ _ (w2.alloc (stepObj { kd := kk, tx := O m 1 % 4, ky := ⟨#[]⟩, px := ⟨#[]⟩ }))
        have HS1 : Hid (StepAt w2.heap.size { kd := kk, tx := O m 1 % 4, ky := ⟨#[]⟩, px := ⟨#[]⟩ } (w2.alloc (stepObj { kd := kk, tx := O m 1 % 4, ky := ⟨#[]⟩, px := ⟨#[]⟩ }))) := StepAt.new _ _
        have HB4 : Hid (Below w.heap.size w (w2.alloc (stepObj { kd := kk, tx := O m 1 % 4, ky := ⟨#[]⟩, px := ⟨#[]⟩ }))) := HB2.out.alloc HB2.out.size _
        have HO4 : Hid ((w2.alloc (stepObj { kd := kk, tx := O m 1 % 4, ky := ⟨#[]⟩, px := ⟨#[]⟩ })).ownsRow gs 31 9 (.slice (some ⟨gs, 0, none⟩) m n) m xs) := HO2.out.alloc _
        have HP4 : Hid (PresAt w.heap.size (namedB (stepS O) m) (w2.alloc (stepObj { kd := kk, tx := O m 1 % 4, ky := ⟨#[]⟩, px := ⟨#[]⟩ }))) := HP2.out.kept (World.grownBy_alloc _ _ none) (by simp)
        have HBK4 : Hid ((w2.alloc (stepObj { kd := kk, tx := O m 1 % 4, ky := ⟨#[]⟩, px := ⟨#[]⟩ })).heap[bo]? = some (.cells #[.int .u8 (O m 0), .int .u8 (O m 1), .int .u8 (O m 2)] 25 (0, 0))) := blk_kept (World.grownBy_alloc w2 _ none) (by simp) HBK.out
        clear p0 p1 p2 HBK HB2 HO2 HP2
        generalize w2.alloc (stepObj { kd := kk, tx := O m 1 % 4, ky := ⟨#[]⟩, px := ⟨#[]⟩ }) = w4 at *
        generalize w2.heap.size = bs at *
        have p2 : w4.cell? ⟨bo, 2, none⟩ = some (.int .u8 (O m 2)) := by simp [World.cell?, HBK4.out]
        have hne1 : gs ≠ bs := by have := HGS.out; have := HBO.out; omega
        rcases hkr with rfl | rfl | rfl | rfl
        · have hfz : w4.frozen? ⟨bs, 2, none⟩ = false := by simp [World.frozen?, HS1.out.blk]
          have hc2 : w4.cell? ⟨bs, 2, none⟩ = some (.string ⟨#[]⟩) := HS1.out.c2
          go_wp2_with fail
          refine (key6 (O m 2) w4 l2 u2).mono ?_
          rintro e w3 ⟨rfl, rfl⟩
          go_upto_region 14 with fail
          have HS2 : Hid (StepAt bs (stepS O m) (w4.setCell ⟨bs, 2, none⟩ (.string (keyOf3 (O m 2))))) := by
            refine ⟨(set_blk HS1.out.blk 2 _).trans ?_⟩
            rw [HST.out]
            simp
          have hgs5 := grown_setCell w4 ⟨bs, 2, none⟩ (.string (keyOf3 (O m 2)))
          have HB5 : Hid (Below w.heap.size w (w4.setCell ⟨bs, 2, none⟩ (.string (keyOf3 (O m 2))))) := HB4.out.setCell (by simp; have := HBP.out; have := HGS.out; have := HBO.out; omega) _
          have HO5 : Hid ((w4.setCell ⟨bs, 2, none⟩ (.string (keyOf3 (O m 2)))).ownsRow gs 31 9 (.slice (some ⟨gs, 0, none⟩) m n) m xs) := HO4.out.kept hgs5 (.inr (by simpa [Value.ownBlock] using hne1))
          have HP5 : Hid (PresAt w.heap.size (namedB (stepS O) m) (w4.setCell ⟨bs, 2, none⟩ (.string (keyOf3 (O m 2))))) := HP4.out.kept hgs5 (by simp; have := HBP.out; have := HGS.out; have := HBO.out; omega)
          have HBK5 : Hid ((w4.setCell ⟨bs, 2, none⟩ (.string (keyOf3 (O m 2)))).heap[bo]? = some (.cells #[.int .u8 (O m 0), .int .u8 (O m 1), .int .u8 (O m 2)] 25 (0, 0))) := blk_kept hgs5 (by simp; have := HBO.out; omega) HBK4.out
          clear hfz hc2 HB4 HO4 HP4 HBK4 p2 hgs5
          generalize w4.setCell ⟨bs, 2, none⟩ (.string (keyOf3 (O m 2))) = w5 at *
          clear HS1
          obtain ⟨jj, hjj⟩ : ∃ jj : Nat, O m 2 % 3 = (jj : Int) := ⟨(O m 2 % 3).toNat, by omega⟩
          have hj3 : jj < 3 := by omega
          have hj3' : (jj : Int) < 3 := by omega
          have q2 : w5.cell? ⟨bo, 2, none⟩ = some (.int .u8 (O m 2)) := by simp [World.cell?, HBK5.out]
          have hfp : w5.frozen? ⟨w.heap.size, jj, none⟩ = false := HP5.out.frozen jj
          have hcp := HP5.out.cell jj hj3
          go_upto_region 15 with fail
          have hgs6 := grown_setCell w5 ⟨w.heap.size, jj, none⟩ (.bool true)
          have HS6 : Hid (StepAt bs (stepS O m) (w5.setCell ⟨w.heap.size, jj, none⟩ (.bool true))) := HS2.out.kept hgs6 (by simp; have := HBP.out; have := HGS.out; have := HBO.out; omega)
          have HB6 : Hid (Below w.heap.size w (w5.setCell ⟨w.heap.size, jj, none⟩ (.bool true))) := HB5.out.setCell (by simp) _
          have HO6 : Hid ((w5.setCell ⟨w.heap.size, jj, none⟩ (.bool true)).ownsRow gs 31 9 (.slice (some ⟨gs, 0, none⟩) m n) m xs) := HO5.out.kept hgs6 (.inr (by have := HBP.out; simp [Value.ownBlock]; omega))
          have HP6 : Hid (PresAt w.heap.size (namedB (stepS O) (m + 1)) (w5.setCell ⟨w.heap.size, jj, none⟩ (.bool true))) := (HP5.out.set jj hj3).congr (fun k _ => by
            show (namedB (stepS O) m k || (keyOf3 (jj : Int) == k)) = (namedB (stepS O) m k || ((stepS O m).ky == k))
            rw [HST.out, ← hjj, keyOf3_mod]
            simp)
          clear HB5 HO5 HP5 HBK5 hgs6 hfp hcp q2 HS2
          generalize w5.setCell ⟨w.heap.size, jj, none⟩ (.bool true) = w6 at *
          have t0 := HS6.out.c0
          have t1 := HS6.out.c1
          have t2 := HS6.out.c2
          have hb5 := HS6.out.blk
          have HPX : Hid ((stepS O m).px = ⟨#[]⟩) := by show (stepS O m).px = ⟨#[]⟩; rw [HST.out]
          have t3 : w6.cell? ⟨bs, 3, none⟩ = some (.string ⟨#[]⟩) := by simp [World.cell?, hb5, HPX.out]
          have t4 : w6.cell? ⟨bs, 4, none⟩ = some (.string ⟨#[]⟩) := by simp [World.cell?, hb5]
          have t5 : w6.cell? ⟨bs, 5, none⟩ = some (.int .u8 0) := by simp [World.cell?, hb5]
          have t6 : w6.cell? ⟨bs, 6, none⟩ = some (.int .i64 0) := by simp [World.cell?, hb5]
          have t7 : w6.cell? ⟨bs, 7, none⟩ = some (.int .i64 0) := by simp [World.cell?, hb5]
          have t8 : w6.cell? ⟨bs, 8, none⟩ = some (.string ⟨#[]⟩) := by simp [World.cell?, hb5]
          clear HST
          generalize hss : stepS O m = ss at *
          clear hb5
          have hnew := news_step ss w6
          have hone := one_step ss
          have hown6 := HO6.out.alloc (.cells #[.int .u8 ss.kd, .int .i64 ss.tx, .string ss.ky, .string ss.px, .string ⟨#[]⟩, .int .u8 0, .int .i64 0, .int .i64 0, .string ⟨#[]⟩] 31 (0, 0))
          rw [HPX.out] at hnew hown6
          go_wp2_with (at_builtin; refine wpList_append_fits _ rfl _ _ 23 rfl gs 31 i0 9 Yba.underlying23 hi hz1 gs m n xs rfl hown6 ⟨w6.heap.size, 0, none⟩ 1 1 (stCells ss) rfl rfl hnew hone (by omega) ?_)
          intro w7 hown7 hgr7
          have HOWN7 : Hid (w7.ownsRow gs 31 9 (.slice (some ⟨gs, 0, none⟩) (m + 1) n) (m + 1) (xs ++ stCells ss)) := hown7
          have HB7 : Hid (Below w.heap.size w w7) := (HB6.out.alloc HB6.out.size _).grown hgr7 (by have := HB6.out.size; simp; omega) (fun k hk => by cases hk; have := HBP.out; omega)
          have HL7 : Hid (StList (xs ++ stCells ss) (m + 1) (stepS O)) := HL.out.snoc ss hss
          have HP7 : Hid (PresAt w.heap.size (namedB (stepS O) (m + 1)) w7) := (HP6.out.kept (World.grownBy_alloc _ _ none) (by simp)).kept hgr7 (by have := HBP.out; simp; omega)
          clear hown7 hgr7 hnew hone hown6 t0 t1 t2 t3 t4 t5 t6 t7 t8
          go_wp2_with fail
          go_roundg (n - (m + 1))
          case measure => rw [HGM.out]; omega
          case rel => exact ⟨m + 1, _, rfl, by omega, by go_num, by go_num, HOWN7.out, HL7.out, HP7.out, HB7.out⟩
        · have hfz : w4.frozen? ⟨bs, 2, none⟩ = false := by simp [World.frozen?, HS1.out.blk]
          have hc2 : w4.cell? ⟨bs, 2, none⟩ = some (.string ⟨#[]⟩) := HS1.out.c2
          go_wp2_with fail
          refine (key6 (O m 2) w4 l2 u2).mono ?_
          rintro e w3 ⟨rfl, rfl⟩
          go_upto_region 14 with fail
          have HS2 : Hid (StepAt bs (stepS O m) (w4.setCell ⟨bs, 2, none⟩ (.string (keyOf3 (O m 2))))) := by
            refine ⟨(set_blk HS1.out.blk 2 _).trans ?_⟩
            rw [HST.out]
            simp
          have hgs5 := grown_setCell w4 ⟨bs, 2, none⟩ (.string (keyOf3 (O m 2)))
          have HB5 : Hid (Below w.heap.size w (w4.setCell ⟨bs, 2, none⟩ (.string (keyOf3 (O m 2))))) := HB4.out.setCell (by simp; have := HBP.out; have := HGS.out; have := HBO.out; omega) _
          have HO5 : Hid ((w4.setCell ⟨bs, 2, none⟩ (.string (keyOf3 (O m 2)))).ownsRow gs 31 9 (.slice (some ⟨gs, 0, none⟩) m n) m xs) := HO4.out.kept hgs5 (.inr (by simpa [Value.ownBlock] using hne1))
          have HP5 : Hid (PresAt w.heap.size (namedB (stepS O) m) (w4.setCell ⟨bs, 2, none⟩ (.string (keyOf3 (O m 2))))) := HP4.out.kept hgs5 (by simp; have := HBP.out; have := HGS.out; have := HBO.out; omega)
          have HBK5 : Hid ((w4.setCell ⟨bs, 2, none⟩ (.string (keyOf3 (O m 2)))).heap[bo]? = some (.cells #[.int .u8 (O m 0), .int .u8 (O m 1), .int .u8 (O m 2)] 25 (0, 0))) := blk_kept hgs5 (by simp; have := HBO.out; omega) HBK4.out
          clear hfz hc2 HB4 HO4 HP4 HBK4 p2 hgs5
          generalize w4.setCell ⟨bs, 2, none⟩ (.string (keyOf3 (O m 2))) = w5 at *
          clear HS1
          obtain ⟨jj, hjj⟩ : ∃ jj : Nat, O m 2 % 3 = (jj : Int) := ⟨(O m 2 % 3).toNat, by omega⟩
          have hj3 : jj < 3 := by omega
          have hj3' : (jj : Int) < 3 := by omega
          have q2 : w5.cell? ⟨bo, 2, none⟩ = some (.int .u8 (O m 2)) := by simp [World.cell?, HBK5.out]
          have hfp : w5.frozen? ⟨w.heap.size, jj, none⟩ = false := HP5.out.frozen jj
          have hcp := HP5.out.cell jj hj3
          go_upto_region 15 with fail
          have hgs6 := grown_setCell w5 ⟨w.heap.size, jj, none⟩ (.bool true)
          have HS6 : Hid (StepAt bs (stepS O m) (w5.setCell ⟨w.heap.size, jj, none⟩ (.bool true))) := HS2.out.kept hgs6 (by simp; have := HBP.out; have := HGS.out; have := HBO.out; omega)
          have HB6 : Hid (Below w.heap.size w (w5.setCell ⟨w.heap.size, jj, none⟩ (.bool true))) := HB5.out.setCell (by simp) _
          have HO6 : Hid ((w5.setCell ⟨w.heap.size, jj, none⟩ (.bool true)).ownsRow gs 31 9 (.slice (some ⟨gs, 0, none⟩) m n) m xs) := HO5.out.kept hgs6 (.inr (by have := HBP.out; simp [Value.ownBlock]; omega))
          have HP6 : Hid (PresAt w.heap.size (namedB (stepS O) (m + 1)) (w5.setCell ⟨w.heap.size, jj, none⟩ (.bool true))) := (HP5.out.set jj hj3).congr (fun k _ => by
            show (namedB (stepS O) m k || (keyOf3 (jj : Int) == k)) = (namedB (stepS O) m k || ((stepS O m).ky == k))
            rw [HST.out, ← hjj, keyOf3_mod]
            simp)
          clear HB5 HO5 HP5 HBK5 hgs6 hfp hcp q2 HS2
          generalize w5.setCell ⟨w.heap.size, jj, none⟩ (.bool true) = w6 at *
          have t0 := HS6.out.c0
          have t1 := HS6.out.c1
          have t2 := HS6.out.c2
          have hb5 := HS6.out.blk
          have HPX : Hid ((stepS O m).px = ⟨#[]⟩) := by show (stepS O m).px = ⟨#[]⟩; rw [HST.out]
          have t3 : w6.cell? ⟨bs, 3, none⟩ = some (.string ⟨#[]⟩) := by simp [World.cell?, hb5, HPX.out]
          have t4 : w6.cell? ⟨bs, 4, none⟩ = some (.string ⟨#[]⟩) := by simp [World.cell?, hb5]
          have t5 : w6.cell? ⟨bs, 5, none⟩ = some (.int .u8 0) := by simp [World.cell?, hb5]
          have t6 : w6.cell? ⟨bs, 6, none⟩ = some (.int .i64 0) := by simp [World.cell?, hb5]
          have t7 : w6.cell? ⟨bs, 7, none⟩ = some (.int .i64 0) := by simp [World.cell?, hb5]
          have t8 : w6.cell? ⟨bs, 8, none⟩ = some (.string ⟨#[]⟩) := by simp [World.cell?, hb5]
          clear HST
          generalize hss : stepS O m = ss at *
          clear hb5
          have hnew := news_step ss w6
          have hone := one_step ss
          have hown6 := HO6.out.alloc (.cells #[.int .u8 ss.kd, .int .i64 ss.tx, .string ss.ky, .string ss.px, .string ⟨#[]⟩, .int .u8 0, .int .i64 0, .int .i64 0, .string ⟨#[]⟩] 31 (0, 0))
          rw [HPX.out] at hnew hown6
          go_wp2_with (at_builtin; refine wpList_append_fits _ rfl _ _ 23 rfl gs 31 i0 9 Yba.underlying23 hi hz1 gs m n xs rfl hown6 ⟨w6.heap.size, 0, none⟩ 1 1 (stCells ss) rfl rfl hnew hone (by omega) ?_)
          intro w7 hown7 hgr7
          have HOWN7 : Hid (w7.ownsRow gs 31 9 (.slice (some ⟨gs, 0, none⟩) (m + 1) n) (m + 1) (xs ++ stCells ss)) := hown7
          have HB7 : Hid (Below w.heap.size w w7) := (HB6.out.alloc HB6.out.size _).grown hgr7 (by have := HB6.out.size; simp; omega) (fun k hk => by cases hk; have := HBP.out; omega)
          have HL7 : Hid (StList (xs ++ stCells ss) (m + 1) (stepS O)) := HL.out.snoc ss hss
          have HP7 : Hid (PresAt w.heap.size (namedB (stepS O) (m + 1)) w7) := (HP6.out.kept (World.grownBy_alloc _ _ none) (by simp)).kept hgr7 (by have := HBP.out; simp; omega)
          clear hown7 hgr7 hnew hone hown6 t0 t1 t2 t3 t4 t5 t6 t7 t8
          go_wp2_with fail
          go_roundg (n - (m + 1))
          case measure => rw [HGM.out]; omega
          case rel => exact ⟨m + 1, _, rfl, by omega, by go_num, by go_num, HOWN7.out, HL7.out, HP7.out, HB7.out⟩
        · go_upto_region 15 with fail
          have HS6 : Hid (StepAt bs (stepS O m) w4) := by
            refine ⟨HS1.out.blk.trans ?_⟩
            rw [HST.out]
            simp
          have HP6 : Hid (PresAt w.heap.size (namedB (stepS O) (m + 1)) w4) := HP4.out.congr (named_none (by rw [HST.out]; simp))
          have HB6 := HB4
          have HO6 := HO4
          clear HB4 HO4 HP4 HBK4 p2
          generalize w4 = w6 at *
          clear HS1
          have t0 := HS6.out.c0
          have t1 := HS6.out.c1
          have t2 := HS6.out.c2
          have hb5 := HS6.out.blk
          have HPX : Hid ((stepS O m).px = ⟨#[]⟩) := by show (stepS O m).px = ⟨#[]⟩; rw [HST.out]
          have t3 : w6.cell? ⟨bs, 3, none⟩ = some (.string ⟨#[]⟩) := by simp [World.cell?, hb5, HPX.out]
          have t4 : w6.cell? ⟨bs, 4, none⟩ = some (.string ⟨#[]⟩) := by simp [World.cell?, hb5]
          have t5 : w6.cell? ⟨bs, 5, none⟩ = some (.int .u8 0) := by simp [World.cell?, hb5]
          have t6 : w6.cell? ⟨bs, 6, none⟩ = some (.int .i64 0) := by simp [World.cell?, hb5]
          have t7 : w6.cell? ⟨bs, 7, none⟩ = some (.int .i64 0) := by simp [World.cell?, hb5]
          have t8 : w6.cell? ⟨bs, 8, none⟩ = some (.string ⟨#[]⟩) := by simp [World.cell?, hb5]
          clear HST
          generalize hss : stepS O m = ss at *
          clear hb5
          have hnew := news_step ss w6
          have hone := one_step ss
          have hown6 := HO6.out.alloc (.cells #[.int .u8 ss.kd, .int .i64 ss.tx, .string ss.ky, .string ss.px, .string ⟨#[]⟩, .int .u8 0, .int .i64 0, .int .i64 0, .string ⟨#[]⟩] 31 (0, 0))
          rw [HPX.out] at hnew hown6
          go_wp2_with (at_builtin; refine wpList_append_fits _ rfl _ _ 23 rfl gs 31 i0 9 Yba.underlying23 hi hz1 gs m n xs rfl hown6 ⟨w6.heap.size, 0, none⟩ 1 1 (stCells ss) rfl rfl hnew hone (by omega) ?_)
          intro w7 hown7 hgr7
          have HOWN7 : Hid (w7.ownsRow gs 31 9 (.slice (some ⟨gs, 0, none⟩) (m + 1) n) (m + 1) (xs ++ stCells ss)) := hown7
          have HB7 : Hid (Below w.heap.size w w7) := (HB6.out.alloc HB6.out.size _).grown hgr7 (by have := HB6.out.size; simp; omega) (fun k hk => by cases hk; have := HBP.out; omega)
          have HL7 : Hid (StList (xs ++ stCells ss) (m + 1) (stepS O)) := HL.out.snoc ss hss
          have HP7 : Hid (PresAt w.heap.size (namedB (stepS O) (m + 1)) w7) := (HP6.out.kept (World.grownBy_alloc _ _ none) (by simp)).kept hgr7 (by have := HBP.out; simp; omega)
          clear hown7 hgr7 hnew hone hown6 t0 t1 t2 t3 t4 t5 t6 t7 t8
          go_wp2_with fail
          go_roundg (n - (m + 1))
          case measure => rw [HGM.out]; omega
          case rel => exact ⟨m + 1, _, rfl, by omega, by go_num, by go_num, HOWN7.out, HL7.out, HP7.out, HB7.out⟩
        · go_upto_region 15 with fail
          have HS6 : Hid (StepAt bs (stepS O m) w4) := by
            refine ⟨HS1.out.blk.trans ?_⟩
            rw [HST.out]
            simp
          have HP6 : Hid (PresAt w.heap.size (namedB (stepS O) (m + 1)) w4) := HP4.out.congr (named_none (by rw [HST.out]; simp))
          have HB6 := HB4
          have HO6 := HO4
          clear HB4 HO4 HP4 HBK4 p2
          generalize w4 = w6 at *
          clear HS1
          have t0 := HS6.out.c0
          have t1 := HS6.out.c1
          have t2 := HS6.out.c2
          have hb5 := HS6.out.blk
          have HPX : Hid ((stepS O m).px = ⟨#[]⟩) := by show (stepS O m).px = ⟨#[]⟩; rw [HST.out]
          have t3 : w6.cell? ⟨bs, 3, none⟩ = some (.string ⟨#[]⟩) := by simp [World.cell?, hb5, HPX.out]
          have t4 : w6.cell? ⟨bs, 4, none⟩ = some (.string ⟨#[]⟩) := by simp [World.cell?, hb5]
          have t5 : w6.cell? ⟨bs, 5, none⟩ = some (.int .u8 0) := by simp [World.cell?, hb5]
          have t6 : w6.cell? ⟨bs, 6, none⟩ = some (.int .i64 0) := by simp [World.cell?, hb5]
          have t7 : w6.cell? ⟨bs, 7, none⟩ = some (.int .i64 0) := by simp [World.cell?, hb5]
          have t8 : w6.cell? ⟨bs, 8, none⟩ = some (.string ⟨#[]⟩) := by simp [World.cell?, hb5]
          clear HST
          generalize hss : stepS O m = ss at *
          clear hb5
          have hnew := news_step ss w6
          have hone := one_step ss
          have hown6 := HO6.out.alloc (.cells #[.int .u8 ss.kd, .int .i64 ss.tx, .string ss.ky, .string ss.px, .string ⟨#[]⟩, .int .u8 0, .int .i64 0, .int .i64 0, .string ⟨#[]⟩] 31 (0, 0))
          rw [HPX.out] at hnew hown6
          go_wp2_with (at_builtin; refine wpList_append_fits _ rfl _ _ 23 rfl gs 31 i0 9 Yba.underlying23 hi hz1 gs m n xs rfl hown6 ⟨w6.heap.size, 0, none⟩ 1 1 (stCells ss) rfl rfl hnew hone (by omega) ?_)
          intro w7 hown7 hgr7
          have HOWN7 : Hid (w7.ownsRow gs 31 9 (.slice (some ⟨gs, 0, none⟩) (m + 1) n) (m + 1) (xs ++ stCells ss)) := hown7
          have HB7 : Hid (Below w.heap.size w w7) := (HB6.out.alloc HB6.out.size _).grown hgr7 (by have := HB6.out.size; simp; omega) (fun k hk => by cases hk; have := HBP.out; omega)
          have HL7 : Hid (StList (xs ++ stCells ss) (m + 1) (stepS O)) := HL.out.snoc ss hss
          have HP7 : Hid (PresAt w.heap.size (namedB (stepS O) (m + 1)) w7) := (HP6.out.kept (World.grownBy_alloc _ _ none) (by simp)).kept hgr7 (by have := HBP.out; simp; omega)
          clear hown7 hgr7 hnew hone hown6 t0 t1 t2 t3 t4 t5 t6 t7 t8
          go_wp2_with fail
          go_roundg (n - (m + 1))
          case measure => rw [HGM.out]; omega
          case rel => exact ⟨m + 1, _, rfl, by omega, by go_num, by go_num, HOWN7.out, HL7.out, HP7.out, HB7.out⟩
    · obtain rfl : m = n := by omega
      generalize wr = wa at *
      have HGL : Hid (gs < wa.heap.size) := (own_block HOWN.out rfl).2
      have HROW : Hid (StRow gs m (stepS O) wa) := HL.out.row HOWN.out
      clear HL HOWN
      go_wp2_with (at_make; refine wpList_make_own _ rfl _ _ 23 rfl wa.heap.size 31 i0 _ 9 Yba.underlying23 hi hz0 hz1 _ _ _ (3 * m) rfl rfl (by first | rfl | omega | go_num) ?b2 ?b3 (Nat.le_refl _) ?_)
      case b2 => rw [hz2]; omega
      case b3 => unfold maxLen; omega
      intro w2 hown2 hgr2
      have HOWN2 : Hid (w2.ownsRow wa.heap.size 31 9 (.slice (some ⟨wa.heap.size, 0, none⟩) 0 (3 * m)) 0 []) := hown2
      have HB2 : Hid (Below wa.heap.size wa w2) := (Below.refl _ _).grown hgr2 (Nat.le_refl _) (fun k h => by cases h)
      have HK3 : Hid ((keysL (stepS O) m).length ≤ 3) := keysL_len _ _
      have HKD : Hid (keysL (stepS O) m = key3.filter (namedB (stepS O) m)) := rfl
      have HREC : Hid (∀ w', Below wa.heap.size wa w' → Calls Yba.prog 7 #[.slice (some ⟨gs, 0, none⟩) m m] w' fun e w'' => e = .returned (.agg #[.bool (modR (expE (stepS O) m) (expL (keysL (stepS O) m) (stepS O) m).length), .bool (modC (expE (stepS O) m) (expL (keysL (stepS O) m) (stepS O) m).length), .bool (modS (expE (stepS O) m) (expL (keysL (stepS O) m) (stepS O) m).length)]) ∧ Below w'.heap.size w' w'') := fun w' hb' =>
        rec_scan gs m m (stepS O) w' hn (HROW.out.below hb' HGL.out) (by have := hb'.size; have := HGL.out; omega) HSC.out
      have HPL : Hid (Plain (expE (stepS O) m) (expL (keysL (stepS O) m) (stepS O) m).length) := plain_expL _ _ HSC.out m
      have HEE : Hid ((fun i => (expL (keysL (stepS O) m) (stepS O) m).getD i dfl) = expE (stepS O) m) := rfl
      clear hown2 hgr2
      generalize keysL (stepS O) m = K at *
      generalize hxx : expE (stepS O) m = EE at *
      clear hxx
      go_wp2_with fail
      go_loopg [10, 76] m (fun gn sv iv wx => ∃ q : Nat, gn = m - q ∧ q ≤ m ∧ sv = .slice (some ⟨wa.heap.size, 0, none⟩) (expL K (stepS O) q).length (3 * m) ∧ iv = .int .i64 q ∧ wx.ownsRow wa.heap.size 31 9 (.slice (some ⟨wa.heap.size, 0, none⟩) (expL K (stepS O) q).length (3 * m)) (expL K (stepS O) q).length (flat (expL K (stepS O) q)) ∧ Below wa.heap.size wa wx)
      case atStart => exact ⟨0, rfl, Nat.zero_le _, rfl, rfl, HOWN2.out, HB2.out⟩
      case round =>
        clear HOWN2 HB2
        obtain ⟨q, hgq, hq, rfl, rfl, hown, hbel⟩ := hrel
        have HGQ : Hid (gk = m - q) := hgq
        have HOWN : Hid (wr.ownsRow wa.heap.size 31 9 (.slice (some ⟨wa.heap.size, 0, none⟩) (expL K (stepS O) q).length (3 * m)) (expL K (stepS O) q).length (flat (expL K (stepS O) q))) := hown
        have HBX : Hid (Below wa.heap.size wa wr) := hbel
        clear hgq hown hbel
        by_cases hlq : q < m
        · have hlq' : (q : Int) < (m : Int) := by omega
          have HLEN : Hid ((expL K (stepS O) q).length ≤ 3 * q) := expL_len K HK3.out (stepS O) q
          have HEXP : Hid (expL K (stepS O) (q + 1) = expL K (stepS O) q ++ exp1 K (stepS O q)) := rfl
          have HPX : Hid (Scs (stepS O q)) := HSC.out q
          have hrw : StRow gs m (stepS O) wr := HROW.out.below HBX.out HGL.out
          have k0 := hrw.cell q hlq 0 (by omega)
          have k1 := hrw.cell q hlq 1 (by omega)
          have k2 := hrw.cell q hlq 2 (by omega)
          have k3 := hrw.cell q hlq 3 (by omega)
          have k4 := hrw.cell q hlq 4 (by omega)
          have k5 := hrw.cell q hlq 5 (by omega)
          have k6 := hrw.cell q hlq 6 (by omega)
          have k7 := hrw.cell q hlq 7 (by omega)
          have k8 := hrw.cell q hlq 8 (by omega)
          simp only [stCell, Nat.add_zero] at k0 k1 k2 k3 k4 k5 k6 k7 k8
          clear hrw
          generalize stepS O q = ss at *
          generalize expL K (stepS O) q = L at *
          go_upto_region 23 with fail
          change Code.wp _ _ _ _ (wr.alloc (stepObj ss))
          have HS1 : Hid (StepAt wr.heap.size ss (wr.alloc (stepObj ss))) := StepAt.new _ _
          have HB4 : Hid (Below wa.heap.size wa (wr.alloc (stepObj ss))) := HBX.out.alloc HBX.out.size _
          have HO4 : Hid ((wr.alloc (stepObj ss)).ownsRow wa.heap.size 31 9 (.slice (some ⟨wa.heap.size, 0, none⟩) L.length (3 * m)) L.length (flat L)) := HOWN.out.alloc _
          have hgo : wa.heap.size < wr.heap.size := (own_block HOWN.out rfl).2
          clear k0 k1 k2 k3 k4 k5 k6 k7 k8 HBX HOWN
          generalize hw4 : wr.alloc (stepObj ss) = w4 at *
          clear hw4
          generalize wr.heap.size = bs at *
          have t0 := HS1.out.c0
          have t1 := HS1.out.c1
          have t2 := HS1.out.c2
          have hb5 := HS1.out.blk
          have t3 : w4.cell? ⟨bs, 3, none⟩ = some (.string ss.px) := by simp [World.cell?, hb5]
          have t4 : w4.cell? ⟨bs, 4, none⟩ = some (.string ⟨#[]⟩) := by simp [World.cell?, hb5]
          have t5 : w4.cell? ⟨bs, 5, none⟩ = some (.int .u8 0) := by simp [World.cell?, hb5]
          have t6 : w4.cell? ⟨bs, 6, none⟩ = some (.int .i64 0) := by simp [World.cell?, hb5]
          have t7 : w4.cell? ⟨bs, 7, none⟩ = some (.int .i64 0) := by simp [World.cell?, hb5]
          have t8 : w4.cell? ⟨bs, 8, none⟩ = some (.string ⟨#[]⟩) := by simp [World.cell?, hb5]
          clear hb5
          have hll := HLEN.out
          by_cases hk3 : ss.kd = 3
          · have hk3' : (ss.kd != 3) = false := by rw [hk3]; rfl
            have HX : Hid (part (namedB (stepS O) m) ss 3 = exp1 K ss) := by show part (namedB (stepS O) m) ss 3 = exp1 K ss; rw [HKD.out]; exact part3 _ ss hk3
            generalize namedB (stepS O) m = BB at *
            clear hk3
            go_wp2_with fail
            clear t0 t1 t2 t3 t4 t5 t6 t7 t8 hk3'
            go_loopg [10, 13] 3 (fun gn sv jv wx => ∃ j : Nat, gn = 3 - j ∧ j ≤ 3 ∧ sv = .slice (some ⟨wa.heap.size, 0, none⟩) (L ++ part BB ss j).length (3 * m) ∧ jv = .int .u8 j ∧ wx.ownsRow wa.heap.size 31 9 (.slice (some ⟨wa.heap.size, 0, none⟩) (L ++ part BB ss j).length (3 * m)) (L ++ part BB ss j).length (flat (L ++ part BB ss j)) ∧ Below wa.heap.size wa wx ∧ StepAt bs ss wx)
            case atStart => exact ⟨0, rfl, by omega, by simp [part], rfl, by simpa [part] using HO4.out, HB4.out, HS1.out⟩
            case round =>
              clear HO4 HB4 HS1
              obtain ⟨j, hgj, hj, rfl, rfl, hown, hbel, hstp⟩ := hrel
              have HGJ : Hid (gk = 3 - j) := hgj
              have HBX : Hid (Below wa.heap.size wa wr) := hbel
              have HS6 : Hid (StepAt bs ss wr) := hstp
              have HPA : Hid (part BB ss (j + 1) = part BB ss j ++ (if BB (keyOf3 j) && preB ss.px (keyOf3 j) then [rdOf ss (keyOf3 j)] else [])) := rfl
              have hpl := part_len BB ss j
              have hlle : (L ++ part BB ss j).length ≤ 3 * q + j := by rw [List.length_append]; omega
              have HPE : Hid (∀ h : j = 3, L ++ part BB ss j = L ++ exp1 K ss) := fun h => by rw [h, HX.out]
              have HPS : Hid (L ++ part BB ss (j + 1) = (L ++ part BB ss j) ++ (if BB (keyOf3 j) && preB ss.px (keyOf3 j) then [rdOf ss (keyOf3 j)] else [])) := by show L ++ part BB ss (j + 1) = _; rw [HPA.out, List.append_assoc]
              generalize L ++ part BB ss j = LL at *
              have HOWN : Hid (wr.ownsRow wa.heap.size 31 9 (.slice (some ⟨wa.heap.size, 0, none⟩) LL.length (3 * m)) LL.length (flat LL)) := hown
              clear hgj hown hbel hstp HPA hpl
              by_cases hj3 : j < 3
              · have hj3' : (j : Int) < 3 := by omega
                have HPRX : Hid (PresAt w.heap.size BB wr) := ⟨by rw [HBX.out.block w.heap.size (by have := HBP.out; have := HGL.out; omega)]; exact HPR.out.blk⟩
                have hcp := HPRX.out.cell j hj3
                have hb6 := HS6.out.blk
                have t3 : wr.cell? ⟨bs, 3, none⟩ = some (.string ss.px) := by simp [World.cell?, hb6]
                have t1 := HS6.out.c1
                clear hb6 HPRX
                go_wp2_with fail
                refine (key6 (j : Int) wr (by omega) (by omega)).mono ?_
                rintro e w6 ⟨rfl, rfl⟩
                generalize keyOf3 (j : Int) = kj at *
                cases hB : BB kj
                · rw [hB] at hcp
                  have HLS : Hid (L ++ part BB ss (j + 1) = LL) := by show L ++ part BB ss (j + 1) = LL; rw [HPS.out, hB]; simp
                  go_wp2_with fail
                  go_roundg (3 - (j + 1))
                  case measure => rw [HGJ.out]; omega
                  case rel =>
                    refine ⟨j + 1, rfl, by omega, ?_, by go_num, ?_, HBX.out, HS6.out⟩
                    · rw [HLS.out]
                    · rw [HLS.out]; exact HOWN.out
                · rw [hB] at hcp
                  cases hpre : preB ss.px kj
                  · have HLS : Hid (L ++ part BB ss (j + 1) = LL) := by show L ++ part BB ss (j + 1) = LL; rw [HPS.out, hB, hpre]; simp
                    go_wp2_with fail
                    refine (prefix10 kj ss.px wr).mono ?_
                    rintro e w6 ⟨rfl, rfl⟩
                    rw [hpre]
                    go_wp2_with fail
                    go_roundg (3 - (j + 1))
                    case measure => rw [HGJ.out]; omega
                    case rel =>
                      refine ⟨j + 1, rfl, by omega, ?_, by go_num, ?_, HBX.out, HS6.out⟩
                      · rw [HLS.out]
                      · rw [HLS.out]; exact HOWN.out
                  · have HLS : Hid (L ++ part BB ss (j + 1) = LL ++ [rdOf ss kj]) := by show L ++ part BB ss (j + 1) = LL ++ [rdOf ss kj]; rw [HPS.out, hB, hpre]; simp
                    go_wp2_with fail
                    refine (prefix10 kj ss.px wr).mono ?_
                    rintro e w6 ⟨rfl, rfl⟩
                    rw [hpre]
                    have hnew := news_step (rdOf ss kj) wr
                    have hone := one_step (rdOf ss kj)
                    have hown6 := HOWN.out.alloc (.cells #[.int .u8 1, .int .i64 ss.tx, .string kj, .string ⟨#[]⟩, .string ⟨#[]⟩, .int .u8 0, .int .i64 0, .int .i64 0, .string ⟨#[]⟩] 31 (0, 0))
                    go_wp2_with (at_builtin; refine wpList_append_fits _ rfl _ _ 23 rfl wa.heap.size 31 i0 9 Yba.underlying23 hi hz1 wa.heap.size LL.length (3 * m) (flat LL) rfl hown6 ⟨wr.heap.size, 0, none⟩ 1 1 (stCells (rdOf ss kj)) rfl rfl hnew hone (by omega) ?_)
                    intro w7 hown7 hgr7
                    have HOWN7 : Hid (w7.ownsRow wa.heap.size 31 9 (.slice (some ⟨wa.heap.size, 0, none⟩) (LL.length + 1) (3 * m)) (LL.length + 1) (flat LL ++ stCells (rdOf ss kj))) := hown7
                    have HB7 : Hid (Below wa.heap.size wa w7) := (HBX.out.alloc HBX.out.size _).grown hgr7 (by have := HBX.out.size; simp; omega) (fun k hk => by cases hk; exact Nat.le_refl _)
                    have HS7 : Hid (StepAt bs ss w7) := (HS6.out.kept (World.grownBy_alloc _ _ none) (by simp)).kept hgr7 (by simp; omega)
                    clear hown7 hgr7 hnew hone hown6 t1 t3
                    go_wp2_with fail
                    go_roundg (3 - (j + 1))
                    case measure => rw [HGJ.out]; omega
                    case rel =>
                      refine ⟨j + 1, rfl, by omega, ?_, by go_num, ?_, HB7.out, HS7.out⟩
                      · rw [HLS.out]; simp
                      · rw [HLS.out, flat_snoc]; simpa using HOWN7.out
              · obtain rfl : j = 3 := by omega
                go_wp2_with fail
                go_roundg (m - (q + 1))
                case measure => rw [HGQ.out]; omega
                case rel =>
                  refine ⟨q + 1, rfl, by omega, ?_, by go_num, ?_, HBX.out⟩
                  · rw [HEXP.out, ← HPE.out (by first | rfl | trivial)]
                  · rw [HEXP.out, ← HPE.out (by first | rfl | trivial)]; exact HOWN.out
          · have hk3' : (ss.kd != 3) = true := by simpa using hk3
            have HX : Hid (exp1 K ss = [ss]) := by show exp1 K ss = [ss]; unfold exp1; exact if_neg hk3
            have hnew := news_step ss w4
            have hone := one_step ss
            have hown6 := HO4.out.alloc (.cells #[.int .u8 ss.kd, .int .i64 ss.tx, .string ss.ky, .string ss.px, .string ⟨#[]⟩, .int .u8 0, .int .i64 0, .int .i64 0, .string ⟨#[]⟩] 31 (0, 0))
            go_wp2_with (at_builtin; refine wpList_append_fits _ rfl _ _ 23 rfl wa.heap.size 31 i0 9 Yba.underlying23 hi hz1 wa.heap.size L.length (3 * m) (flat L) rfl hown6 ⟨w4.heap.size, 0, none⟩ 1 1 (stCells ss) rfl rfl hnew hone (by omega) ?_)
            intro w7 hown7 hgr7
            have HOWN7 : Hid (w7.ownsRow wa.heap.size 31 9 (.slice (some ⟨wa.heap.size, 0, none⟩) (L.length + 1) (3 * m)) (L.length + 1) (flat L ++ stCells ss)) := hown7
            have HB7 : Hid (Below wa.heap.size wa w7) := (HB4.out.alloc HB4.out.size _).grown hgr7 (by have := HB4.out.size; simp; omega) (fun k hk => by cases hk; exact Nat.le_refl _)
            clear hown7 hgr7 hnew hone hown6 t0 t1 t2 t3 t4 t5 t6 t7 t8
            go_wp2_with fail
            go_roundg (m - (q + 1))
            case measure => rw [HGQ.out]; omega
            case rel =>
              refine ⟨q + 1, rfl, by omega, ?_, by go_num, ?_, HB7.out⟩
              · rw [HEXP.out, HX.out]; simp
              · rw [HEXP.out, HX.out, flat_snoc]; simpa using HOWN7.out
        · obtain rfl : q = m := by omega
          obtain ⟨_, hgl⟩ := own_block HOWN.out rfl
          have HR2 : Hid (StRow wa.heap.size (expL K (stepS O) q).length EE wr) := by
            have h := flat_row HOWN.out
            rw [HEE.out] at h
            exact h
          have HNL : Hid ((expL K (stepS O) q).length ≤ 3 * q) := expL_len K HK3.out (stepS O) q
          clear HOWN HEE
          generalize (expL K (stepS O) q).length = NN at *
          have HM8 : Hid (∀ w2, Below wr.heap.size wr w2 → Calls Yba.prog 8 #[.slice (some ⟨wa.heap.size, 0, none⟩) NN (3 * q)] w2 fun e w' => e = .returned (.agg #[.bool (modR EE NN), .bool (modC EE NN), .bool (modS EE NN)]) ∧ Below w2.heap.size w2 w') := fun w2 hb2 => mod8 _ NN (3 * q) EE w2 (by have := HNL.out; omega) (HR2.out.below hb2 hgl) (by have := hb2.size; omega) HPL.out
          go_wp2_with fail
          refine (HREC.out wr HBX.out).mono ?_
          rintro e w2 ⟨rfl, hb2⟩
          have HB2 : Hid (Below wr.heap.size wr w2) := hb2
          clear hb2
          go_wp2_with fail
          refine (HM8.out w2 HB2.out).mono ?_
          rintro e w3 ⟨rfl, hb3⟩
          have HB3 : Hid (Below w.heap.size w w3) := by
            have h1 := HB.out.size
            have h2 := HBX.out.size
            have h3 := HB2.out.size
            exact ((HB.out.trans (HBX.out.mono h1)).trans (HB2.out.mono (by omega))).trans (hb3.mono (by omega))
          clear hb3 HM8 HREC
          generalize modR EE NN = x at *
          generalize modC EE NN = y at *
          generalize modS EE NN = z at *
          go_wp2_with fail
          go_ret
          exact ⟨rfl, HB3.out⟩

/-- More than 1024 ops: true at once. -/
theorem law4_big (p : Option Addr) (n cap : Nat) (w : World) (hn : 1024 < n) : Calls Yba.prog 4 #[.slice p n cap] w fun e w' => e = .returned (.bool true) ∧ Below w.heap.size w w' := by
  have hn' : (1024 : Int) < (n : Int) := by omega
  go_enter Yba.func4, Yba.ntmps4
  go_wp2_with fail
  go_ret
  exact ⟨rfl, Below.refl _ _⟩
end Go.Proofs.Ybulkdao
