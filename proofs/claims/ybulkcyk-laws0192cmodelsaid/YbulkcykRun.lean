/-
  (*search).run (function 6), walked.
-/
import Derived.Test.YbulkcykRunPre3
import Derived.Test.YbulkcykOrder
namespace Go.Proofs.Ybulkcyk
open Go.RowKit
set_option linter.unusedSimpArgs false

set_option maxRecDepth 10000 in
set_option maxHeartbeats 16000000 in
theorem run6 {w0 w : World} {own0 : Nat → Tag} {bs B n : Nat} {adjv : Value} {lim num : Int} {A : Nat → List Nat} (hB : w.heap.size = B) (hMI : MI w0 w bs B 30 own0 (cs0 adjv (.slice none 0 0) lim num) (fun _ => none) w) (hL : Lists w bs B n adjv A) (hlt : ∀ v, ∀ u ∈ A v, u < n) (hsrt : ∀ v, (A v).Pairwise (· < ·)) (hn7 : n ≤ 7) (hnum : num ≤ 9223372036854775807) : Calls Yba.prog 6 #[.pointer (some ⟨bs, 0, none⟩)] w fun e w' => e = .returned (.tuple #[]) ∧ RunOut w0 w bs B n A lim num w' := by
  have HMI : Hid (MI w0 w bs B 30 own0 (cs0 adjv (.slice none 0 0) lim num) (fun _ => none) w) := hMI
  have HL : Hid (Lists w bs B n adjv A) := hL
  have HLT : Hid (∀ v, ∀ u ∈ A v, u < n) := hlt
  have HSR : Hid (∀ v, (A v).Pairwise (· < ·)) := hsrt
  have HB : Hid (w.heap.size = B) := hB
  obtain ⟨ga, ca, ea, hgaB, hgab, hga⟩ := hL.ex
  have HGA : Hid (∀ v, v < n → ∃ p c, w.cell? ⟨ga, v, none⟩ = some (.slice p (A v).length c) ∧ (0 < (A v).length → ∃ g, p = some ⟨g, 0, none⟩ ∧ g < B ∧ g ≠ bs ∧ ∀ i, i < (A v).length → w.cell? ⟨g, i, none⟩ = some (iv ((A v).getD i 0)))) := hga
  have hbsB := hMI.bsB
  obtain ⟨i0, hi, hz0, hz1, hz2⟩ := info_parts Yba.info3
  have hmk23 := mk23 n (by omega)
  have c0 : w.cell? ⟨bs, 0, none⟩ = some (.slice (some ⟨ga, 0, none⟩) n ca) := by rw [← ea]; exact hMI.cell rfl
  have c1 : (w.alloc (.cells (madeCells #[.slice none 0 0] n) 26)).cell? ⟨bs, 1, none⟩ = some (.slice none 0 0) := (hMI.alloc _).cell rfl
  have f1 : (w.alloc (.cells (madeCells #[.slice none 0 0] n) 26)).frozen? ⟨bs, 1, none⟩ = false := (hMI.alloc _).frozen 1
  have HA0 : Hid (∃ own V, RA w0 w bs B n adjv lim num own V (fun _ => []) ((w.alloc (.cells (madeCells #[.slice none 0 0] n) 26)).setCell ⟨bs, 1, none⟩ (.slice (some ⟨w.heap.size, 0, none⟩) n n))) := RA.start hMI (by omega)
  clear hMI hL hlt hsrt hB hga
  go_enter Yba.func6, Yba.ntmps6
  go_upto_region 2 with fail
  clear c0 c1 f1 hmk23
  generalize (w.alloc (.cells (madeCells #[.slice none 0 0] n) 26)).setCell ⟨bs, 1, none⟩ (.slice (some ⟨w.heap.size, 0, none⟩) n n) = w1 at *
  have c0 : w1.cell? ⟨bs, 0, none⟩ = some (.slice (some ⟨ga, 0, none⟩) n ca) := by obtain ⟨a, b, h⟩ := HA0.out; rw [← ea]; exact h.mi.cell rfl
  have HR0 : Hid (radK A 0 0 = fun _ => []) := rfl
  go_upto_block 0 with fail
  clear c0
  go_cut [] (fun wx => ∃ own V, RA w0 w bs B n adjv lim num own V (radK A n 0) wx)
  case first =>
    go_wp2_with fail
    go_loopg [24] n (fun gn kv wr => ∃ i : Nat, gn = n - i ∧ i ≤ n ∧ kv = iv i ∧ ∃ own V, RA w0 w bs B n adjv lim num own V (radK A i 0) wr)
    case atStart => exact ⟨0, rfl, Nat.zero_le _, rfl, by rw [HR0.out]; exact HA0.out⟩
    case round =>
      clear HA0 HR0
      obtain ⟨i, hgi, hin, rfl, own1, V1, hV1⟩ := hrel
      have HGI : Hid (gk = n - i) := hgi
      have HV1 : Hid (RA w0 w bs B n adjv lim num own1 V1 (radK A i 0) wr) := hV1
      clear hgi hV1
      by_cases hi1 : i < n
      · have hi1' : (i : Int) < (n : Int) := by omega
        obtain ⟨pA, cA, hpA, hgA⟩ := HGA.out i hi1
        have HPA : Hid (0 < (A i).length → ∃ g, pA = some ⟨g, 0, none⟩ ∧ g < B ∧ g ≠ bs ∧ ∀ j, j < (A i).length → w.cell? ⟨g, j, none⟩ = some (iv ((A i).getD j 0))) := hgA
        have aA : wr.cell? ⟨ga, i, none⟩ = some (.slice pA (A i).length cA) := (HV1.out.mi.kcell (a := ⟨ga, i, none⟩) hgaB hgab).trans hpA
        have hAL : (A i).length ≤ 7 := by have := sorted_len (HSR.out i) (HLT.out i); omega
        have HNX : Hid (radK A i (A i).length = radK A (i + 1) 0) := radK_next A i
        clear hpA hgA
        go_wp2_with fail
        clear aA
        go_loopg [31] (A i).length (fun gn kv wr => ∃ k : Nat, gn = (A i).length - k ∧ k ≤ (A i).length ∧ kv = iv k ∧ ∃ own V, RA w0 w bs B n adjv lim num own V (radK A i k) wr)
        case atStart => exact ⟨0, rfl, Nat.zero_le _, rfl, _, _, HV1.out⟩
        case round =>
          clear HV1
          obtain ⟨k, hgk, hk, rfl, own3, V3, hV3⟩ := hrel
          have HGK : Hid (gk = (A i).length - k) := hgk
          have HSUC : Hid (k < (A i).length → radK A i (k + 1) = radS i (radK A i k) ((A i).getD k 0)) := fun h => radK_succ _ _ _ h
          have HALL : Hid (k = (A i).length → radK A (i + 1) 0 = radK A i k) := fun h => by rw [h]; exact HNX.out.symm
          have HRL : Hid (∀ x, (radK A i k x).length ≤ i + 1) := fun x => radK_len HSR.out i k x
          generalize radK A i k = r at *
          have HV3 : Hid (RA w0 w bs B n adjv lim num own3 V3 r wr) := hV3
          clear hV3 hgk
          by_cases hlt : k < (A i).length
          · have hlt' : (k : Int) < ((A i).length : Int) := by omega
            obtain ⟨gA, epA, hgAB, hgAb, hcell⟩ := HPA.out (by omega)
            have akk : wr.cell? ⟨gA, k, none⟩ = some (iv ((A i).getD k 0)) := (HV3.out.mi.kcell (a := ⟨gA, k, none⟩) hgAB hgAb).trans (hcell k hlt)
            have HXm : Hid ((A i).getD k 0 ∈ A i) := by
              show (A i).getD k 0 ∈ A i
              rw [List.getD_eq_getElem?_getD, List.getElem?_eq_getElem hlt]; exact List.getElem_mem _
            have HNX1 : Hid (radK A i (k + 1) = radS i r ((A i).getD k 0)) := HSUC.out hlt
            clear hcell HSUC HALL HPA hgAB hgAb
            generalize hxx : (A i).getD k 0 = x at *
            clear hxx
            subst epA
            have hxn : x < n := HLT.out i x HXm.out
            have hxn' : (x : Int) < (n : Int) := by omega
            obtain ⟨b9, e9⟩ := HV3.out.fx
            obtain ⟨px, cx, ex⟩ := HV3.out.form hxn
            have c9 : wr.cell? ⟨bs, 1, none⟩ = some (.slice (some ⟨b9, 0, none⟩) n n) := by rw [← e9]; exact HV3.out.mi.cell rfl
            have d9 : wr.cell? ⟨b9, x, none⟩ = some (.slice px (r x).length cx) := by rw [← ex]; exact HV3.out.cell e9 hxn
            have hRx : RwA n V3 r (.bls x) = some (rowI (V3 (.bls x)) (r x)) := if_pos hxn
            have hcy2 : (wr.alloc (.cells #[iv i] 3 (0, 0))).ownsRow B 3 1 (.slice px (r x).length cx) (r x).length ((r x).map iv) := by
              have h := ((HV3.out.mi.row _ _ hRx).1.owns rfl).alloc (.cells #[iv i] 3 (0, 0))
              rw [show (rowI (V3 (.bls x)) (r x)).v = .slice px (r x).length cx from ex] at h
              exact h
            have hbs5 := HV3.out.mi.sz
            have hlx : (r x).length ≤ 8 := by have := HRL.out x; omega
            go_upto_region 8 with fail
            clear akk
            obtain ⟨T, hTd⟩ : ∃ T : World → Prop, T = fun w' => w'.cell? ⟨bs, 1, none⟩ = some (.slice (some ⟨b9, 0, none⟩) n n) ∧ w'.cell? ⟨b9, x, none⟩ = some (.slice px (r x).length cx) := ⟨_, rfl⟩
            have hTu : ∀ w', T w' → w'.cell? ⟨bs, 1, none⟩ = some (.slice (some ⟨b9, 0, none⟩) n n) ∧ w'.cell? ⟨b9, x, none⟩ = some (.slice px (r x).length cx) := fun w' h => by rw [hTd] at h; exact h
            have hTm : ∀ w', w'.cell? ⟨bs, 1, none⟩ = some (.slice (some ⟨b9, 0, none⟩) n n) ∧ w'.cell? ⟨b9, x, none⟩ = some (.slice px (r x).length cx) → T w' := fun w' h => by rw [hTd]; exact h
            have hT0 : T wr.drew := hTm _ ⟨c9, d9⟩
            clear hTd
            refine AnyBut.start (last := 16) (T := T) (by decide +kernel) ?_
            refine AnyBut.take (i := 0) (v := ?av0) rfl (by decide +kernel) (by decide +kernel) (by decide +kernel) (by decide +kernel) (by decide) (fun _ _ _ h => h) (Or.inl ⟨by rfl, ?ah0⟩) (by assumption) ?ar0
            case ah0 => (intro w8 hT8; replace hT8 := hTu w8 hT8; go_simp; try with_reducible rfl)
            case ar0 =>
            try simp only [Act.put, List.setIfInBounds_toArray, List.set_cons_zero, List.set_cons_succ]
            refine AnyBut.take (i := 1) (v := ?av1) rfl (by decide +kernel) (by decide +kernel) (by decide +kernel) (by decide +kernel) (by decide) (fun _ _ _ h => h) (Or.inl ⟨by rfl, ?ah1⟩) (by assumption) ?ar1
            case ah1 => (intro w8 hT8; replace hT8 := hTu w8 hT8; go_simp; try with_reducible rfl)
            case ar1 =>
            try simp only [Act.put, List.setIfInBounds_toArray, List.set_cons_zero, List.set_cons_succ]
            refine AnyBut.take (i := 2) (v := ?av2) rfl (by decide +kernel) (by decide +kernel) (by decide +kernel) (by decide +kernel) (by decide) (fun _ _ _ h => h) (Or.inl ⟨by rfl, ?ah2⟩) (by assumption) ?ar2
            case ah2 => (intro w8 hT8; replace hT8 := hTu w8 hT8; go_simp; try with_reducible rfl)
            case ar2 =>
            try simp only [Act.put, List.setIfInBounds_toArray, List.set_cons_zero, List.set_cons_succ]
            refine AnyBut.take (i := 3) (v := ?av3) rfl (by decide +kernel) (by decide +kernel) (by decide +kernel) (by decide +kernel) (by decide) (fun _ _ _ h => h) (Or.inl ⟨by rfl, ?ah3⟩) (by assumption) ?ar3
            case ah3 => (intro w8 hT8; replace hT8 := hTu w8 hT8; go_simp; try with_reducible rfl)
            case ar3 =>
            try simp only [Act.put, List.setIfInBounds_toArray, List.set_cons_zero, List.set_cons_succ]
            refine AnyBut.take (i := 4) (v := ?av4) rfl (by decide +kernel) (by decide +kernel) (by decide +kernel) (by decide +kernel) (by decide) (fun _ _ _ h => h) (Or.inl ⟨by rfl, ?ah4⟩) (by assumption) ?ar4
            case ah4 => (intro w8 hT8; replace hT8 := hTu w8 hT8; go_simp; try with_reducible rfl)
            case ar4 =>
            try simp only [Act.put, List.setIfInBounds_toArray, List.set_cons_zero, List.set_cons_succ]
            refine AnyBut.take (i := 5) (v := ?av5) rfl (by decide +kernel) (by decide +kernel) (by decide +kernel) (by decide +kernel) (by decide) (fun _ _ _ h => h) (Or.inl ⟨by rfl, ?ah5⟩) (by assumption) ?ar5
            case ah5 => (intro w8 hT8; replace hT8 := hTu w8 hT8; go_simp; try with_reducible rfl)
            case ar5 =>
            try simp only [Act.put, List.setIfInBounds_toArray, List.set_cons_zero, List.set_cons_succ]
            refine AnyBut.take (i := 6) (v := ?av6) rfl (by decide +kernel) (by decide +kernel) (by decide +kernel) (by decide +kernel) (by decide) (fun _ _ _ h => h) (Or.inl ⟨by rfl, ?ah6⟩) (by assumption) ?ar6
            case ah6 => (intro w8 hT8; replace hT8 := hTu w8 hT8; go_simp; try with_reducible rfl)
            case ar6 =>
            try simp only [Act.put, List.setIfInBounds_toArray, List.set_cons_zero, List.set_cons_succ]
            refine AnyBut.take (i := 7) (v := ?av7) rfl (by decide +kernel) (by decide +kernel) (by decide +kernel) (by decide +kernel) (by decide) (fun _ _ _ h => h) (Or.inl ⟨by rfl, ?ah7⟩) (by assumption) ?ar7
            case ah7 => (intro w8 hT8; replace hT8 := hTu w8 hT8; go_simp; try with_reducible rfl)
            case ar7 =>
            try simp only [Act.put, List.setIfInBounds_toArray, List.set_cons_zero, List.set_cons_succ]
            refine AnyBut.take (i := 8) (v := ?av8) rfl (by decide +kernel) (by decide +kernel) (by decide +kernel) (by decide +kernel) (by decide) (fun _ _ _ h => h) (Or.inl ⟨by rfl, ?ah8⟩) (by assumption) ?ar8
            case ah8 => (intro w8 hT8; replace hT8 := hTu w8 hT8; go_simp; try with_reducible rfl)
            case ar8 =>
            try simp only [Act.put, List.setIfInBounds_toArray, List.set_cons_zero, List.set_cons_succ]
            refine AnyBut.take (i := 9) (v := ?av9) rfl (by decide +kernel) (by decide +kernel) (by decide +kernel) (by decide +kernel) (by decide) (fun _ _ _ h => h) (Or.inl ⟨by rfl, ?ah9⟩) (by assumption) ?ar9
            case ah9 => (intro w8 hT8; replace hT8 := hTu w8 hT8; go_simp; try with_reducible rfl)
            case ar9 =>
            try simp only [Act.put, List.setIfInBounds_toArray, List.set_cons_zero, List.set_cons_succ]
            refine AnyBut.take (i := 10) (v := ?av10) rfl (by decide +kernel) (by decide +kernel) (by decide +kernel) (by decide +kernel) (by decide) (fun _ _ _ h => h) (Or.inl ⟨by rfl, ?ah10⟩) (by assumption) ?ar10
            case ah10 => (intro w8 hT8; replace hT8 := hTu w8 hT8; go_simp; try with_reducible rfl)
            case ar10 =>
            try simp only [Act.put, List.setIfInBounds_toArray, List.set_cons_zero, List.set_cons_succ]
            refine AnyBut.take (i := 11) (v := ?av11) rfl (by decide +kernel) (by decide +kernel) (by decide +kernel) (by decide +kernel) (by decide) (fun _ _ _ h => h) (Or.inl ⟨by rfl, ?ah11⟩) (by assumption) ?ar11
            case ah11 => (intro w8 hT8; replace hT8 := hTu w8 hT8; go_simp; try with_reducible rfl)
            case ar11 =>
            try simp only [Act.put, List.setIfInBounds_toArray, List.set_cons_zero, List.set_cons_succ]
            refine AnyBut.take (i := 12) (v := ?av12) rfl (by decide +kernel) (by decide +kernel) (by decide +kernel) (by decide +kernel) (by decide) (fun _ _ _ h => h) (Or.inl ⟨by rfl, ?ah12⟩) (by assumption) ?ar12
            case ah12 => (intro w8 hT8; replace hT8 := hTu w8 hT8; go_simp; try with_reducible rfl)
            case ar12 =>
            try simp only [Act.put, List.setIfInBounds_toArray, List.set_cons_zero, List.set_cons_succ]
            refine AnyBut.only (i := 13) (by decide +kernel) ?_
            refine wpOp_step rfl fun K' hK => ?_
            have HK : Shut _ := hK
            clear hK
            go_simp
            have hT8 : T (wr.alloc (.cells #[iv i] 3 (0, 0))).drew := hTm _ ⟨by show (wr.alloc _).cell? _ = _; rw [World.cell?_alloc_some _ _ _ (by rw [c9]; rfl)]; exact c9, by show (wr.alloc _).cell? _ = _; rw [World.cell?_alloc_some _ _ _ (by rw [d9]; rfl)]; exact d9⟩
            refine HK.out _ _ ⟨fun _ => hT8, ?_⟩
            clear HK
            try simp only [Act.put, List.setIfInBounds_toArray, List.set_cons_zero, List.set_cons_succ]
            refine AnyBut.only (i := 14) (by decide +kernel) ?_
            refine wpOp_step rfl fun K' hK => ?_
            have HK : Shut _ := hK
            clear hK
            refine step_append_lies _ (by rfl) _ _ _ (by rfl) B 3 i0 _ 1 8 Yba.underlying26 hi hz0 hz1 hz2 rfl (by omega) _ (r x).length ((r x).map iv) (by rfl) hcy2.drew ⟨wr.heap.size, 0, none⟩ 1 1 [iv i] (by rfl) (by rfl) (World.news_of_block (cs := #[iv i]) (t := 3) (fr := (0, 0)) (heap_alloc_new wr _)) (by simp [Value.oneCell']) (by omega) (by unfold maxLen; omega) (by omega) (by simp; omega) (wr.heap.size + 1) (by simp) ?_
            intro g9 cap9 w9 hown9 hgr9 hat9 hlt9
            have hgr9' : wr.grownBy w9 (V3 (.bls x)).ownBlock := by rw [ex]; exact grown_trans (World.grownBy_alloc _ _ _) ⟨hgr9.os, hgr9.tape, hgr9.output, hgr9.size, hgr9.block⟩
            have hst9 := HV3.out.mi.far hRx hgr9'
            obtain ⟨own9, V9, hV9⟩ := HV3.out.push x i hxn e9 hgr9' hown9 (by rw [ex]; exact hat9.imp (fun h => h) (fun h => by omega))
            have HV9 : Hid (∃ own V, RA w0 w bs B n adjv lim num own V (radS i r x) (w9.setCell ⟨b9, x, none⟩ (.slice (some ⟨g9, 0, none⟩) ((r x).length + 1) cap9))) := ⟨own9, V9, hV9⟩
            have k9b : w9.cell? ⟨bs, 1, none⟩ = some (.slice (some ⟨b9, 0, none⟩) n n) := by rw [← e9]; simp [World.cell?, hst9, cs0]
            have hR9 := HV3.out.mi.rowFar (u := .blsO) hRx rfl (by simp) hgr9'
            have k9d : w9.cell? ⟨b9, x, none⟩ = some (.slice px (r x).length cx) := by
              have := hR9.cell (i := x) (u := V3 (.bls x)) e9 (map_range_get _ _ _ hxn)
              rw [ex] at this
              simpa [rowF] using this
            have k9f : w9.frozen? ⟨b9, x, none⟩ = false := hR9.frozen e9 x
            clear hown9 hgr9 hat9 hlt9 hgr9' hst9 hV9 hT8 hT0 hcy2 hR9
            have hT9 : T w9 := hTm _ ⟨k9b, k9d⟩
            refine HK.out _ _ ⟨fun _ => hT9, ?_⟩
            clear HK
            try simp only [Act.put, List.setIfInBounds_toArray, List.set_cons_zero, List.set_cons_succ]
            refine AnyBut.only (i := 15) (by decide +kernel) ?_
            refine wpOp_step rfl fun K' hK => ?_
            have HK : Shut _ := hK
            clear hK
            go_simp
            refine HK.out _ _ ⟨fun _ => hT9, ?_⟩
            clear HK
            try simp only [Act.put, List.setIfInBounds_toArray, List.set_cons_zero, List.set_cons_succ]
            refine AnyBut.only (i := 16) (by decide +kernel) ?_
            refine wpOp_step rfl fun K' hK => ?_
            have HK : Shut _ := hK
            clear hK
            go_simp
            refine HK.out _ _ ⟨fun h => absurd rfl h, AnyBut.done (by decide +kernel) ?_ _⟩
            clear HK k9b k9d k9f hT9 hTm hTu c9 d9 HV3
            as_aux_lemma =>
              go_wp2_with fail
              go_roundg ((A i).length - (k + 1))
              case measure => rw [HGK.out]; omega
              case rel => exact ⟨k + 1, rfl, by omega, by go_num, by rw [HNX1.out]; exact HV9.out⟩
          · obtain rfl : k = (A i).length := by omega
            have HV4 : Hid (RA w0 w bs B n adjv lim num own3 V3 (radK A (i + 1) 0) wr) := by show RA w0 w bs B n adjv lim num own3 V3 (radK A (i + 1) 0) wr; rw [HALL.out (by first | rfl | trivial)]; exact HV3.out
            clear HV3
            as_aux_lemma =>
              go_wp2_with fail
              go_roundg (n - (i + 1))
              case measure => rw [HGI.out]; omega
              case rel => exact ⟨i + 1, rfl, by omega, by go_num, _, _, HV4.out⟩
      · obtain rfl : i = n := by omega
        as_aux_lemma =>
          go_wp2_with fail
          go_meet
          exact ⟨_, _, HV1.out⟩
  case rest =>
    obtain ⟨ownA, VA, hVA⟩ := hcut
    obtain ⟨wA, hwA⟩ : ∃ x, x = wc := ⟨_, rfl⟩
    rw [← hwA] at hVA
    obtain ⟨radjv, hrv⟩ : ∃ x, x = VA .blsO := ⟨_, rfl⟩
    have HLR : Hid (Lists wA bs wA.heap.size n radjv (radK A n 0)) := by rw [hrv]; exact hVA.lists
    have HLA : Hid (Lists wA bs wA.heap.size n adjv A) := by
      have hm := hVA.mi
      have hsz := hm.sz
      refine ⟨ga, ca, ea, Nat.lt_of_lt_of_le hgaB hsz, hgab, fun v hv => ?_⟩
      obtain ⟨p, c, h1, h2⟩ := HGA.out v hv
      refine ⟨p, c, (hm.kcell (a := ⟨ga, v, none⟩) hgaB hgab).trans h1, fun h0 => ?_⟩
      obtain ⟨g, e1, e2, e3, e4⟩ := h2 h0
      exact ⟨g, e1, Nat.lt_of_lt_of_le e2 hsz, e3, fun j hj => (hm.kcell (a := ⟨g, j, none⟩) e2 e3).trans (e4 j hj)⟩
    obtain ⟨BA, hBA⟩ : ∃ x, x = wA.heap.size := ⟨_, rfl⟩
    have HMA : Hid (MI w0 wA bs BA 30 ownA (csR adjv radjv lim num nilS nilS nilS nilS nilS nilS nilS nilS) (fun _ => none) wA) := by
      have hm := hVA.mi
      rw [hrv, hBA]
      exact ⟨hm.bel, hm.b0, Nat.lt_of_lt_of_le hm.bsB hm.sz, Nat.le_refl _, fun _ _ _ => rfl, hm.st, fun t q hq => by cases hq⟩
    have HKP : Hid (B ≤ BA ∧ ∀ y, y < B → y ≠ bs → wA.heap[y]? = w.heap[y]?) := ⟨by rw [hBA]; exact hVA.mi.sz, hVA.mi.keep⟩
    rw [← hBA] at HLR HLA
    rw [← hwA]
    clear hVA HA0 HR0 hwA hrv HGA hgaB hgab hBA HMI HL
    have hca : ∀ (W : World) (o : Obj) (k : Nat), bs < W.heap.size → (W.alloc o).cell? ⟨bs, k, none⟩ = W.cell? ⟨bs, k, none⟩ := fun W o k h => World.cell?_alloc_past o bs k h
    have hfa : ∀ (W : World) (o : Obj) (k : Nat), bs < W.heap.size → (W.alloc o).frozen? ⟨bs, k, none⟩ = W.frozen? ⟨bs, k, none⟩ := fun W o k h => by
      have hb := (World.grownBy_alloc W o none).block bs h (by simp)
      simp only [World.frozen?, hb]
    have hmkA := mk26 n (by omega)
    have c4 : wA.cell? ⟨bs, 4, none⟩ = some (.slice none 0 0) := HMA.out.cell rfl
    have f4 : wA.frozen? ⟨bs, 4, none⟩ = false := HMA.out.frozen 4
    have c13 : wA.cell? ⟨bs, 13, none⟩ = some (.slice none 0 0) := HMA.out.cell rfl
    have f13 : wA.frozen? ⟨bs, 13, none⟩ = false := HMA.out.frozen 13
    have c14 : wA.cell? ⟨bs, 14, none⟩ = some (.slice none 0 0) := HMA.out.cell rfl
    have f14 : wA.frozen? ⟨bs, 14, none⟩ = false := HMA.out.frozen 14
    have hbw : bs < wA.heap.size := Nat.lt_of_lt_of_le HMA.out.bsB HMA.out.sz
    have hbw1 : bs < wA.heap.size + 1 := by omega
    have hbw2 : bs < wA.heap.size + 1 + 1 := by omega
    have hbw3 : bs < wA.heap.size + 1 + 1 + 1 := by omega
    go_upto_region 11 with fail
    go_cut [] (fun wx => ∃ own b4 b13 b14, MI w0 wA bs BA 30 own (csR adjv radjv lim num (sl b4 n) nilS nilS nilS nilS (sl b13 n) (sl b14 n) nilS) (R1 n b4 b13 b14) wx)
    case first =>
      have H3 : Hid (∀ d1 d2 d3 : Nat, ((d1 = wA.heap.size ∧ d2 = wA.heap.size + 1 ∧ d3 = wA.heap.size + 1 + 1) ∨ (d1 = wA.heap.size ∧ d3 = wA.heap.size + 1 ∧ d2 = wA.heap.size + 1 + 1) ∨ (d2 = wA.heap.size ∧ d1 = wA.heap.size + 1 ∧ d3 = wA.heap.size + 1 + 1) ∨ (d2 = wA.heap.size ∧ d3 = wA.heap.size + 1 ∧ d1 = wA.heap.size + 1 + 1) ∨ (d3 = wA.heap.size ∧ d1 = wA.heap.size + 1 ∧ d2 = wA.heap.size + 1 + 1) ∨ (d3 = wA.heap.size ∧ d2 = wA.heap.size + 1 ∧ d1 = wA.heap.size + 1 + 1)) → ∃ own', MI w0 wA bs BA 30 own' _ _ _) := fun d1 d2 d3 hd => HMA.out.make3 4 13 14 .pof .idx .low (by simp) (by simp) (by simp) (.int .i64 0) 3 n (by omega) d1 d2 d3 hd
      go_wp2_with fail
      go_region
      all_goals go_wp2_with fail
      all_goals go_meet
      · obtain ⟨o, h⟩ := H3.out _ _ _ (.inl ⟨rfl, rfl, rfl⟩); exact ⟨o, _, _, _, h⟩
      · obtain ⟨o, h⟩ := H3.out _ _ _ (.inr (.inl ⟨rfl, rfl, rfl⟩)); exact ⟨o, _, _, _, h⟩
      · obtain ⟨o, h⟩ := H3.out _ _ _ (.inr (.inr (.inl ⟨rfl, rfl, rfl⟩))); exact ⟨o, _, _, _, h⟩
      · obtain ⟨o, h⟩ := H3.out _ _ _ (.inr (.inr (.inr (.inl ⟨rfl, rfl, rfl⟩)))); exact ⟨o, _, _, _, h⟩
      · obtain ⟨o, h⟩ := H3.out _ _ _ (.inr (.inr (.inr (.inr (.inl ⟨rfl, rfl, rfl⟩))))); exact ⟨o, _, _, _, h⟩
      · obtain ⟨o, h⟩ := H3.out _ _ _ (.inr (.inr (.inr (.inr (.inr ⟨rfl, rfl, rfl⟩))))); exact ⟨o, _, _, _, h⟩
    case rest =>
    clear hmkA c4 f4 c13 f13 c14 f14 hbw hbw1 hbw2 hbw3
    obtain ⟨own1, b4, b13, b14, hM1⟩ := hcut
    have HM1 : Hid (MI w0 wA bs BA 30 own1 (csR adjv radjv lim num (sl b4 n) nilS nilS nilS nilS (sl b13 n) (sl b14 n) nilS) (R1 n b4 b13 b14) wc) := hM1
    clear hM1 HMA
    have hmkB := mk28 n (by omega)
    have c8 : wc.cell? ⟨bs, 8, none⟩ = some (.slice none 0 0) := HM1.out.cell rfl
    have f8 : wc.frozen? ⟨bs, 8, none⟩ = false := HM1.out.frozen 8
    have c11 : wc.cell? ⟨bs, 11, none⟩ = some (.slice none 0 0) := HM1.out.cell rfl
    have f11 : wc.frozen? ⟨bs, 11, none⟩ = false := HM1.out.frozen 11
    have c15 : wc.cell? ⟨bs, 15, none⟩ = some (.slice none 0 0) := HM1.out.cell rfl
    have f15 : wc.frozen? ⟨bs, 15, none⟩ = false := HM1.out.frozen 15
    have hbw : bs < wc.heap.size := Nat.lt_of_lt_of_le HM1.out.bsB HM1.out.sz
    have hbw1 : bs < wc.heap.size + 1 := by omega
    have hbw2 : bs < wc.heap.size + 1 + 1 := by omega
    have hbw3 : bs < wc.heap.size + 1 + 1 + 1 := by omega
    go_upto_region 12 with fail
    go_cut [] (fun wx => ∃ own b8 b11 b15, MI w0 wA bs BA 30 own (csR adjv radjv lim num (sl b4 n) nilS (sl b8 n) nilS (sl b11 n) (sl b13 n) (sl b14 n) (sl b15 n)) (R2 n b4 b13 b14 b8 b11 b15) wx)
    case first =>
      have H3 : Hid (∀ d1 d2 d3 : Nat, ((d1 = wc.heap.size ∧ d2 = wc.heap.size + 1 ∧ d3 = wc.heap.size + 1 + 1) ∨ (d1 = wc.heap.size ∧ d3 = wc.heap.size + 1 ∧ d2 = wc.heap.size + 1 + 1) ∨ (d2 = wc.heap.size ∧ d1 = wc.heap.size + 1 ∧ d3 = wc.heap.size + 1 + 1) ∨ (d2 = wc.heap.size ∧ d3 = wc.heap.size + 1 ∧ d1 = wc.heap.size + 1 + 1) ∨ (d3 = wc.heap.size ∧ d1 = wc.heap.size + 1 ∧ d2 = wc.heap.size + 1 + 1) ∨ (d3 = wc.heap.size ∧ d2 = wc.heap.size + 1 ∧ d1 = wc.heap.size + 1 + 1)) → ∃ own', MI w0 wA bs BA 30 own' _ _ _) := fun d1 d2 d3 hd => HM1.out.make3 8 11 15 .blk .tos .ons (by simp) (by simp) (by simp) (.bool false) 4 n (by omega) d1 d2 d3 hd
      go_wp2_with fail
      go_region
      all_goals go_wp2_with fail
      all_goals go_meet
      · obtain ⟨o, h⟩ := H3.out _ _ _ (.inl ⟨rfl, rfl, rfl⟩); exact ⟨o, _, _, _, h⟩
      · obtain ⟨o, h⟩ := H3.out _ _ _ (.inr (.inl ⟨rfl, rfl, rfl⟩)); exact ⟨o, _, _, _, h⟩
      · obtain ⟨o, h⟩ := H3.out _ _ _ (.inr (.inr (.inl ⟨rfl, rfl, rfl⟩))); exact ⟨o, _, _, _, h⟩
      · obtain ⟨o, h⟩ := H3.out _ _ _ (.inr (.inr (.inr (.inl ⟨rfl, rfl, rfl⟩)))); exact ⟨o, _, _, _, h⟩
      · obtain ⟨o, h⟩ := H3.out _ _ _ (.inr (.inr (.inr (.inr (.inl ⟨rfl, rfl, rfl⟩))))); exact ⟨o, _, _, _, h⟩
      · obtain ⟨o, h⟩ := H3.out _ _ _ (.inr (.inr (.inr (.inr (.inr ⟨rfl, rfl, rfl⟩))))); exact ⟨o, _, _, _, h⟩
    case rest =>
    clear hmkB c8 f8 c11 f11 c15 f15 hbw hbw1 hbw2 hbw3
    obtain ⟨own2, b8, b11, b15, hM2⟩ := hcut
    have HM2 : Hid (MI w0 wA bs BA 30 own2 (csR adjv radjv lim num (sl b4 n) nilS (sl b8 n) nilS (sl b11 n) (sl b13 n) (sl b14 n) (sl b15 n)) (R2 n b4 b13 b14 b8 b11 b15) wc) := hM2
    clear hM2 HM1
    have hmkC := mk23 n (by omega)
    have c9 : (wc.alloc (.cells (madeCells #[.slice none 0 0] n) 26)).cell? ⟨bs, 9, none⟩ = some (.slice none 0 0) := (HM2.out.alloc _).cell rfl
    have f9 : (wc.alloc (.cells (madeCells #[.slice none 0 0] n) 26)).frozen? ⟨bs, 9, none⟩ = false := (HM2.out.alloc _).frozen 9
    obtain ⟨own3, hM3⟩ := HM2.out.made .blsO (.slice none 0 0) 26 n (by omega)
    have HM3 : Hid (MI w0 wA bs BA 30 own3 (csR adjv radjv lim num (sl b4 n) nilS (sl b8 n) (sl wc.heap.size n) (sl b11 n) (sl b13 n) (sl b14 n) (sl b15 n)) (R3 n b4 b13 b14 b8 b11 b15 wc.heap.size) ((wc.alloc (.cells (madeCells #[.slice none 0 0] n) 26)).setCell ⟨bs, 9, none⟩ (.slice (some ⟨wc.heap.size, 0, none⟩) n n))) := hM3.setC 9 _
    clear hM3 HM2
    go_upto_region 14 with fail
    clear c9 f9 hmkC
    generalize (wc.alloc (.cells (madeCells #[.slice none 0 0] n) 26)).setCell ⟨bs, 9, none⟩ (.slice (some ⟨wc.heap.size, 0, none⟩) n n) = w3 at *
    generalize wc.heap.size = b9 at *
    have hmkD := mk26 n (by omega)
    obtain ⟨own4, hM4⟩ := HM3.out.made (.mem 0) (.int .i64 0) 3 n (by omega)
    have HM4 : Hid (MI w0 wA bs BA 30 own4 (csR adjv radjv lim num (sl b4 n) nilS (sl b8 n) (sl b9 n) (sl b11 n) (sl b13 n) (sl b14 n) (sl b15 n)) (R4 n b4 b13 b14 b8 b11 b15 b9 w3.heap.size 0) (w3.alloc (.cells (madeCells #[.int .i64 0] n) 3))) := by
      have e : (fun v : Nat => if v < 0 then iv v else (.int .i64 0 : Value)) = fun _ => .int .i64 0 := by
        funext v
        rw [if_neg (by omega)]
      show MI w0 wA bs BA 30 own4 (csR adjv radjv lim num (sl b4 n) nilS (sl b8 n) (sl b9 n) (sl b11 n) (sl b13 n) (sl b14 n) (sl b15 n)) (updT (R3 n b4 b13 b14 b8 b11 b15 b9) (.mem 0) (rowF 3 (sl w3.heap.size n) n fun v => if v < 0 then iv v else .int .i64 0)) _
      rw [e]
      exact hM4
    clear hM4 HM3
    go_upto_block 4 with fail
    clear hmkD
    generalize w3.alloc (.cells (madeCells #[.int .i64 0] n) 3) = w4 at *
    generalize w3.heap.size = ba at *
    go_cut [] (fun wx => MI w0 wA bs BA 30 own4 (csR adjv radjv lim num (sl b4 n) nilS (sl b8 n) (sl b9 n) (sl b11 n) (sl b13 n) (sl b14 n) (sl b15 n)) (R4 n b4 b13 b14 b8 b11 b15 b9 ba n) wx)
    case first =>
      go_wp2_with fail
      go_loopg [92] n (fun gn kv wr => ∃ k : Nat, gn = n - k ∧ k ≤ n ∧ kv = iv k ∧ MI w0 wA bs BA 30 own4 (csR adjv radjv lim num (sl b4 n) nilS (sl b8 n) (sl b9 n) (sl b11 n) (sl b13 n) (sl b14 n) (sl b15 n)) (R4 n b4 b13 b14 b8 b11 b15 b9 ba k) wr)
      case atStart => exact ⟨0, rfl, Nat.zero_le _, rfl, HM4.out⟩
      case round =>
        clear HM4
        obtain ⟨k, hgk, hk, rfl, hM⟩ := hrel
        have HGK : Hid (gk = n - k) := hgk
        have HM : Hid (MI w0 wA bs BA 30 own4 (csR adjv radjv lim num (sl b4 n) nilS (sl b8 n) (sl b9 n) (sl b11 n) (sl b13 n) (sl b14 n) (sl b15 n)) (R4 n b4 b13 b14 b8 b11 b15 b9 ba k) wr) := hM
        clear hgk hM
        by_cases hlt : k < n
        · have hlt' : (k : Int) < (n : Int) := by omega
          obtain ⟨⟨xa, dxa⟩, dxf⟩ := fill_cell HM.out hlt
          have HM' : Hid (MI w0 wA bs BA 30 own4 (csR adjv radjv lim num (sl b4 n) nilS (sl b8 n) (sl b9 n) (sl b11 n) (sl b13 n) (sl b14 n) (sl b15 n)) (R4 n b4 b13 b14 b8 b11 b15 b9 ba (k + 1)) (wr.setCell ⟨ba, k, none⟩ (iv k))) := fill_step HM.out
          clear HM
          as_aux_lemma =>
            go_wp2_with fail
            go_roundg (n - (k + 1))
            case measure => rw [HGK.out]; omega
            case rel => exact ⟨k + 1, rfl, by omega, by go_num, HM'.out⟩
        · obtain rfl : k = n := by omega
          as_aux_lemma =>
            go_wp2_with fail
            go_meet
            exact HM.out
    case rest =>
    have HM5 : Hid (MI w0 wA bs BA 30 own4 (csR adjv radjv lim num (sl b4 n) nilS (sl b8 n) (sl b9 n) (sl b11 n) (sl b13 n) (sl b14 n) (sl b15 n)) (R4 n b4 b13 b14 b8 b11 b15 b9 ba n) wc) := hcut
    clear hcut HM4
    have c5 : (wc.alloc (.cells #[.slice (some ⟨ba, 0, none⟩) n n, .int .i64 0] 41)).cell? ⟨bs, 5, none⟩ = some (.slice none 0 0) := (HM5.out.alloc _).cell rfl
    have f5 : (wc.alloc (.cells #[.slice (some ⟨ba, 0, none⟩) n n, .int .i64 0] 41)).frozen? ⟨bs, 5, none⟩ = false := (HM5.out.alloc _).frozen 5
    obtain ⟨own6, hM6⟩ := HM5.out.new .prt (r := ⟨41, 2, .slice (some ⟨wc.heap.size, 0, none⟩) 1 1, 1, [sl ba n, .int .i64 0], 0⟩) (World.grownBy_alloc wc (.cells #[.slice (some ⟨ba, 0, none⟩) n n, .int .i64 0] 41) none) ⟨rfl, .inr ⟨wc.heap.size, 1, #[.slice (some ⟨ba, 0, none⟩) n n, .int .i64 0], rfl, HM5.out.sz, heap_alloc_new wc _, Nat.le_refl _, by unfold maxLen; omega, rfl, rfl⟩⟩ (fun k hk => by cases hk; exact Nat.le_refl _)
    have HM6 : Hid (MI w0 wA bs BA 30 own6 (csR adjv radjv lim num (sl b4 n) (.slice (some ⟨wc.heap.size, 0, none⟩) 1 1) (sl b8 n) (sl b9 n) (sl b11 n) (sl b13 n) (sl b14 n) (sl b15 n)) (R5 n b4 b13 b14 b8 b11 b15 b9 ba wc.heap.size) ((wc.alloc (.cells #[.slice (some ⟨ba, 0, none⟩) n n, .int .i64 0] 41)).setCell ⟨bs, 5, none⟩ (.slice (some ⟨wc.heap.size, 0, none⟩) 1 1))) := hM6.setC 5 _
    clear hM6 HM5
    go_upto_region 21 with fail
    clear c5 f5 hca hfa
    generalize (wc.alloc (.cells #[.slice (some ⟨ba, 0, none⟩) n n, .int .i64 0] 41)).setCell ⟨bs, 5, none⟩ (.slice (some ⟨wc.heap.size, 0, none⟩) 1 1) = w5 at *
    generalize wc.heap.size = b5 at *
    have HRE : Hid (radK A n 0 = fun u => (List.range n).filter (fun v => (A v).contains u)) := radK_all HSR.out n
    obtain ⟨E, e1, e2, e3, e4, e5, e6, e7, e8, e9, e10⟩ : ∃ E : En, E.w0 = w0 ∧ E.w1 = wA ∧ E.bs = bs ∧ E.B = BA ∧ E.n = n ∧ E.adjv = adjv ∧ E.radjv = radjv ∧ E.lim = lim ∧ E.A = A ∧ E.R = radK A n 0 := ⟨⟨w0, wA, bs, BA, n, adjv, radjv, lim, A, radK A n 0⟩, rfl, rfl, rfl, rfl, rfl, rfl, rfl, rfl, rfl, rfl⟩
    rw [← e10] at HRE HLR
    clear e10
    subst e1 e2 e3 e4 e5 e7 e8 e9
    rw [← e6] at HLA HM6
    have HRX : Hid (RH E) := ⟨fun v u hu => by rw [HRE.out] at hu; exact List.mem_range.1 (List.mem_filter.1 hu).1, fun v => by rw [HRE.out]; have := List.length_filter_le (fun u => (E.A u).contains v) (List.range E.n); rw [List.length_range] at this; exact Nat.le_trans this hn7⟩
    have HX : Hid (EH E) := ⟨hn7, HLT.out, HSR.out, HLA.out, HLR.out⟩
    have HG : Hid (GH E.A E.R E.n) := ⟨HLT.out, HSR.out, fun v => by rw [HRE.out]⟩
    have HOUT : Hid (∀ s w', HI E s w' → s.out = modelP E.A E.lim E.n E.n { cyc := [], num := num, more := false } → RunOut E.w0 w E.bs B E.n E.A E.lim num w') := fun s w' hh ho => ⟨E, s, rfl, rfl, rfl, fun y hy hne => by
      obtain ⟨a, b, h⟩ := hh
      rw [h.mi.keep y (Nat.lt_of_lt_of_le hy HKP.out.1) hne]
      exact HKP.out.2 y hy hne, HKP.out.1, hh, ho⟩
    have HH5 : Hid (HI E (hs0 E.n num) w5) := ⟨_, _, hv0 HM6.out⟩
    clear HM6 HLA HLR HRE HLT HSR e6 ea HKP HB hbsB
    go_wp2_with fail
    refine (split10 HX.out HRX.out (HH5.out.splitIn (id := 0) Nat.zero_lt_one rfl) (spre0 hn7)).mono ?_
    rintro e w6 ⟨rfl, hh6⟩
    obtain ⟨own7, V7, hV7⟩ := hh6
    have c6 : w6.cell? ⟨E.bs, 6, none⟩ = some (.int .i64 0) := hV7.mi.cell rfl
    have f6 : w6.frozen? ⟨E.bs, 6, none⟩ = false := hV7.mi.frozen 6
    have HH7 : Hid (∃ s, RI E num 0 s ∧ HI E s (w6.setCell ⟨E.bs, 6, none⟩ (.int .i64 0))) := ⟨_, ri0 hn7 hnum _ 0 rfl (upd (hs0 E.n num).off 0 0) (fun p hp => by rw [upd_other _ _ (by omega)]; rfl), _, _, hV7.setStart 0⟩
    clear hV7 HH5
    go_upto_block 6 with fail
    clear c6 f6
    generalize w6.setCell ⟨E.bs, 6, none⟩ (.int .i64 0) = w7 at *
    go_wp2_with fail
    go_loopg [] E.n (fun gn wr => ∃ (i : Nat) (s : Hs), gn = E.n - i ∧ i ≤ E.n ∧ RI E num i s ∧ HI E s wr)
    case atStart => obtain ⟨s, h1, h2⟩ := HH7.out; exact ⟨0, s, rfl, Nat.zero_le _, h1, h2⟩
    case round =>
      clear HH7
      obtain ⟨i, s, hgi, hin, hR, own8, V8, hV8⟩ := hrel
      have HGI : Hid (gk = E.n - i) := hgi
      have HR : Hid (RI E num i s) := hR
      have HV8 : Hid (HV E own8 V8 s wr) := hV8
      have hst := hR.start
      have c6 : wr.cell? ⟨E.bs, 6, none⟩ = some (.int .i64 (i : Int)) := by rw [← hst]; exact hV8.mi.cell rfl
      clear hgi hR hV8
      by_cases hlt : i < E.n
      · have hlt' : (i : Int) < (E.n : Int) := by omega
        obtain ⟨b4', e4'⟩ := HV8.out.fx .pof rfl
        have c4 : wr.cell? ⟨E.bs, 4, none⟩ = some (.slice (some ⟨b4', 0, none⟩) E.n E.n) := by rw [← e4']; exact HV8.out.mi.cell rfl
        have d4 : wr.cell? ⟨b4', i, none⟩ = some (.int .i64 (s.tj.pof i)) := (HV8.out.cPof e4' hlt).1
        have c7 : wr.cell? ⟨E.bs, 7, none⟩ = some (.int .i64 s.within) := HV8.out.mi.cell rfl
        have f7 : wr.frozen? ⟨E.bs, 7, none⟩ = false := HV8.out.mi.frozen 7
        have HV9 : Hid (HV E own8 V8 { s with within := s.tj.pof i } (wr.setCell ⟨E.bs, 7, none⟩ (.int .i64 (s.tj.pof i))).drew) := (HV8.out.setWithin _).drewN 1
        clear HV8
        go_wp2_with fail
        go_region
        clear c4 d4 c7 f7 c6 e4'
        generalize (wr.setCell ⟨E.bs, 7, none⟩ (.int .i64 (s.tj.pof i))).drew = w8 at *
        have c7 : w8.cell? ⟨E.bs, 7, none⟩ = some (.int .i64 (s.tj.pof i)) := HV9.out.mi.cell rfl
        have HNXT : Hid ((.int .i64 ((i : Int) + 1) : Value) = .int .i64 (((i + 1 : Nat) : Int))) := rfl
        by_cases hp : s.tj.pof i < 0
        · have c6 : w8.cell? ⟨E.bs, 6, none⟩ = some (.int .i64 (i : Int)) := by rw [← hst]; exact HV9.out.mi.cell rfl
          have f6 : w8.frozen? ⟨E.bs, 6, none⟩ = false := HV9.out.mi.frozen 6
          have HH9 : Hid (∃ s, RI E num (i + 1) s ∧ HI E s (w8.setCell ⟨E.bs, 6, none⟩ (.int .i64 ((i : Int) + 1)))) := by
            rw [HNXT.out]
            exact ⟨_, HR.out.neg hp _, _, _, HV9.out.setStart _⟩
          clear HV9
          as_aux_lemma =>
            go_wp2_with fail
            go_roundg (E.n - (i + 1))
            case measure => rw [HGI.out]; omega
            case rel => obtain ⟨s', h1, h2⟩ := HH9.out; exact ⟨i + 1, s', rfl, by omega, h1, h2⟩
        · have hp0 : 0 ≤ s.tj.pof i := by omega
          have hp' : decide (s.tj.pof i < 0) = false := decide_eq_false hp
          have HLK : Hid (LkPre E i { s with within := s.tj.pof i }) := HR.out.lk HG.out hn7 hlt hp0
          as_aux_lemma =>
            go_wp2_with fail
            refine (look11 HX.out HRX.out HG.out ⟨_, _, HV9.out⟩ HLK.out).mono ?_
            rintro e w9 ⟨rfl, hh9⟩
            have HH9 : Hid (HI E (hsOf { s with within := s.tj.pof i } (lookP E.A E.R E.n E.lim i (ssOf s))) w9) := hh9
            clear hh9 HV9 HLK c7
            have c19 : w9.cell? ⟨E.bs, 19, none⟩ = some (.bool (lookP E.A E.R E.n E.lim i (ssOf s)).out.more) := by obtain ⟨a, b, h⟩ := HH9.out; exact h.mi.cell rfl
            cases hm : (lookP E.A E.R E.n E.lim i (ssOf s)).out.more
            · rw [hm] at c19
              obtain ⟨id, hid⟩ : ∃ id : Nat, s.tj.pof i = (id : Int) := ⟨(s.tj.pof i).toNat, by omega⟩
              have HLV : Hid (LvPre E i id (hsOf { s with within := s.tj.pof i } (lookP E.A E.R E.n E.lim i (ssOf s)))) := HR.out.lv HG.out hn7 hlt hid hm
              go_wp2_with fail
              refine (leave12 HX.out HRX.out HH9.out HLV.out).mono ?_
              rintro e w10 ⟨rfl, off', ho1, ho2, hh10⟩
              have HRN : Hid (RI E num (i + 1) { hsOf (hsOf { s with within := s.tj.pof i } (lookP E.A E.R E.n E.lim i (ssOf s))) (leaveP E.A E.R E.n i (lookP E.A E.R E.n E.lim i (ssOf s))) with off := off', start := ((i + 1 : Nat) : Int) }) := HR.out.next HG.out hn7 hlt hid hm off' ho1 ho2
              obtain ⟨own11, V11, hV11⟩ := hh10
              have c6 : w10.cell? ⟨E.bs, 6, none⟩ = some (.int .i64 (i : Int)) := by rw [← hst]; exact hV11.mi.cell rfl
              have f6 : w10.frozen? ⟨E.bs, 6, none⟩ = false := hV11.mi.frozen 6
              have HHN : Hid (∃ s, RI E num (i + 1) s ∧ HI E s (w10.setCell ⟨E.bs, 6, none⟩ (.int .i64 ((i : Int) + 1)))) := by
                rw [HNXT.out]
                exact ⟨_, HRN.out, _, _, hV11.setStart _⟩
              clear HH9 HLV HRN hV11 ho1 ho2 c19
              go_wp2_with fail
              go_roundg (E.n - (i + 1))
              case measure => rw [HGI.out]; omega
              case rel => obtain ⟨s', h1, h2⟩ := HHN.out; exact ⟨i + 1, s', rfl, by omega, h1, h2⟩
            · rw [hm] at c19
              have HHO : Hid (RunOut E.w0 w E.bs B E.n E.A E.lim num w9) := HOUT.out _ _ HH9.out (HR.out.more HG.out hlt hp0 hm)
              clear HH9
              go_wp2_with fail
              refine bodyPost_ret (results_none rfl _ _ _) rfl ?_
              exact ⟨rfl, HHO.out⟩
      · obtain rfl : i = E.n := by omega
        have HHO : Hid (RunOut E.w0 w E.bs B E.n E.A E.lim num wr) := HOUT.out s wr ⟨_, _, HV8.out⟩ (HR.out.end HG.out)
        as_aux_lemma =>
          go_wp2_with fail
          go_end0
          exact ⟨rfl, HHO.out⟩
end Go.Proofs.Ybulkcyk
