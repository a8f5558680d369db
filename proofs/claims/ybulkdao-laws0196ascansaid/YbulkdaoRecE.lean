/-
  RecoveryOf (function 7), walked.
-/
import Derived.Test.YbulkdaoRecPre
namespace Go.Proofs.Ybulkdao
open Go.RowKit

set_option maxRecDepth 10000 in
set_option maxHeartbeats 3200000 in
theorem rec7 (v : Value) (n : Nat) (S : Nat → Stp) (w : World) (hn : n ≤ 4000) (hkd : ∀ i, i < n → (S i).kd = 1 ∨ (S i).kd = 2 ∨ (S i).kd = 4 ∨ (S i).kd = 5)
    (hreads : ∀ w', Below w.heap.size w w' → w.heap.size + 8 = w'.heap.size → Calls Yba.prog 11 #[v] w' fun e w'' => ∃ g cap : Nat, e = .returned (.slice (some ⟨g, 0, none⟩) n cap) ∧ Below w'.heap.size w' w'' ∧ StRow g n S w'' ∧ (g < w.heap.size ∨ w'.heap.size ≤ g) ∧ g < w''.heap.size) :
    Calls Yba.prog 7 #[v] w fun e w' => e = .returned (.agg #[.bool (sigR S n).rcv, .bool (sigR S n).cas, .bool (sigR S n).str]) ∧ Below w.heap.size w w' := by
  have HKD : Hid (∀ i, i < n → (S i).kd = 1 ∨ (S i).kd = 2 ∨ (S i).kd = 4 ∨ (S i).kd = 5) := hkd
  clear hkd
  have HRD : Hid _ := hreads
  clear hreads
  have hmm := @run_makeMap Yba.prog
  go_enter Yba.func7, Yba.ntmps7
  go_wp2_with fail
  have hb0 : Below w.heap.size w (start8 w) := by
    refine (((((((((Below.refl _ _).alloc ?_ _).alloc ?_ _).alloc ?_ _).alloc ?_ _).alloc ?_ _).alloc ?_ _).alloc ?_ _).alloc ?_ _) <;> (simp; try omega)
  refine (HRD.out _ hb0 (by simp)).mono ?_
  rintro e w1 ⟨g, cap, rfl, hb1, hst, hgg, hgl⟩
  obtain ⟨og, hog⟩ : ∃ og, w1.heap[g]? = some og := ⟨_, Array.getElem?_eq_getElem hgl⟩
  have hrow : ∀ wr : World, wr.heap[g]? = some og → StRow g n S wr := fun wr h => ⟨fun i hi j hj => by
    rw [← hst.cell i hi j hj]
    exact World.cell?_of_block (a := ⟨g, i * 9 + j, none⟩) (w := w1) (w' := wr) (h.trans hog.symm)⟩
  have HROW : Hid (∀ wr : World, wr.heap[g]? = some og → StRow g n S wr) := hrow
  have HINV := inv_start w w1 g og (grown_of_below hb1) hog (by simpa using hgg) (hb0.trans (hb1.mono hb0.size))
  have HI : Hid (Inv w w.heap.size (w.heap.size + 1) (w.heap.size + 1 + 1) (w.heap.size + 1 + 1 + 1) (w.heap.size + 1 + 1 + 1 + 1) (w.heap.size + 1 + 1 + 1 + 1 + 1) (w.heap.size + 1 + 1 + 1 + 1 + 1 + 1) (w.heap.size + 1 + 1 + 1 + 1 + 1 + 1 + 1) (w.heap.size + 1 + 1 + 1 + 1 + 1 + 1 + 1 + 1) (pr1 g og) (fun _ => (8, ⟨#[]⟩, 0)) sig0 w1) := HINV
  clear hb0 hb1 hst hgg hmm HRD hgl hog hrow HINV
  go_wp2_with fail
  generalize w.heap.size + 1 + 1 + 1 + 1 + 1 + 1 + 1 + 1 = base at *
  generalize w.heap.size + 1 + 1 + 1 + 1 + 1 + 1 + 1 = bf at *
  generalize w.heap.size + 1 + 1 + 1 + 1 + 1 + 1 = bt at *
  generalize w.heap.size + 1 + 1 + 1 + 1 + 1 = bo at *
  generalize w.heap.size + 1 + 1 + 1 + 1 = bw at *
  generalize w.heap.size + 1 + 1 + 1 = ba at *
  generalize w.heap.size + 1 + 1 = bc at *
  generalize w.heap.size + 1 = br at *
  go_loopg [29] n (fun gn iv wr => ∃ i : Nat, gn = n - i ∧ i ≤ n ∧ iv = .int .i64 i ∧ ∃ own, Inv w w.heap.size br bc ba bw bo bt bf base (pr1 g og) own (sigR S i) wr)
  case atStart => exact ⟨0, rfl, Nat.zero_le _, rfl, _, HI.out⟩
  case round =>
    clear HI
    obtain ⟨i, hgk, hi, rfl, own, hinv⟩ := hrel
    have HGK : Hid (gk = n - i) := hgk
    clear hgk
    by_cases hlt : i < n
    · have hlt' : (i : Int) < (n : Int) := by omega
      have hrw := HROW.out wr hinv.seg
      have HI : Hid (Inv w w.heap.size br bc ba bw bo bt bf base (pr1 g og) own (sigR S i) wr) := hinv
      have k0 := hrw.cell i hlt 0 (by omega)
      have k1 := hrw.cell i hlt 1 (by omega)
      have k2 := hrw.cell i hlt 2 (by omega)
      have k3 := hrw.cell i hlt 3 (by omega)
      have k4 := hrw.cell i hlt 4 (by omega)
      have k5 := hrw.cell i hlt 5 (by omega)
      have k6 := hrw.cell i hlt 6 (by omega)
      have k7 := hrw.cell i hlt 7 (by omega)
      have k8 := hrw.cell i hlt 8 (by omega)
      simp only [stCell, Nat.add_zero] at k0 k1 k2 k3 k4 k5 k6 k7 k8
      clear hrw hinv
      go_upto_region 11 with fail
      change Code.wp _ _ _ _ (wr.alloc (stepObj (S i)))
      obtain ⟨own1, hs1⟩ := HI.out.enter (S i)
      have hgbl : g ≠ wr.heap.size := by have := lt_of_block HI.out.seg; omega
      have hbl : base ≤ wr.heap.size := HI.out.sz
      have HS : Hid (Inv w w.heap.size br bc ba bw bo bt bf base (prs wr.heap.size (stepObj (S i)) g og) own1 (sigR S i) (wr.alloc (stepObj (S i)))) := hs1
      clear k0 k1 k2 k3 k4 k5 k6 k7 k8 HI hs1
      generalize wr.alloc (stepObj (S i)) = ws at *
      generalize wr.heap.size = bl at *
      have s0 := HS.out.step.c0
      have s1 := HS.out.step.c1
      have s2 := HS.out.step.c2
      have hkdi := HKD.out i hlt
      rcases hkdi with hk | hk | hk | hk
      · rw [hk] at s0
        have HK : Hid ((S i).kd = 1) := hk
        clear hk
        have ord := HS.out.ord
        obtain ⟨ov, hlo, hov⟩ := HS.out.atO (S i).ky
        have hl1 := hlo ws rfl
        clear hlo
        go_upto_region 15 with fail
        go_cut [56] (fun c wx => c = .bool (bad (sigR S i) (S i)) ∧ wx = ws)
        case first =>
          as_aux_lemma =>
            rcases hov with ⟨rfl, hnil⟩ | ⟨r, rfl, hr, _, hmp, hback⟩
            · have HBAD : Hid (bad (sigR S i) (S i) = false) := by show bad (sigR S i) (S i) = false; simp [bad, hnil]
              clear hnil
              go_wp2_with fail
              go_meet
              exact ⟨by rw [HBAD.out], rfl⟩
            · have hln := hmp.len (P := Yba.prog) (kt := 3) Yba.underlying39 3
              rw [show (trues ((sigR S i).opn (S i).ky)).length = ((sigR S i).opn (S i).ky).length by simp [trues]] at hln
              have hlk := hmp.look keyI Yba.underlying39 (zero4 ws) (S i).tx
              rw [getL_trues] at hlk
              have hB : bad (sigR S i) (S i) = (decide (1 < ((sigR S i).opn (S i).ky).length) || (decide (((sigR S i).opn (S i).ky).length = 1) && !(((sigR S i).opn (S i).ky).contains (S i).tx))) := rfl
              clear hmp hback
              generalize ((sigR S i).opn (S i).ky).contains (S i).tx = cc at *
              generalize ((sigR S i).opn (S i).ky).length = ln at *
              by_cases h2 : 1 < ln
              · have h2' : (1 : Int) < (ln : Int) := by omega
                have HB : Hid (bad (sigR S i) (S i) = true) := by show bad (sigR S i) (S i) = true; rw [hB]; simp [h2]
                clear hB
                go_wp2_with fail
                go_meet
                exact ⟨by rw [HB.out], rfl⟩
              · by_cases h1 : ln = 1
                · subst h1
                  have HB : Hid (bad (sigR S i) (S i) = !cc) := by show bad (sigR S i) (S i) = !cc; rw [hB]; simp
                  clear hB
                  go_wp2_with fail
                  go_meet
                  exact ⟨by rw [HB.out], rfl⟩
                · have h1' : ((ln : Int) == 1) = false := by simp; omega
                  have HB : Hid (bad (sigR S i) (S i) = false) := by show bad (sigR S i) (S i) = false; rw [hB]; simp [h1, h2]
                  clear hB
                  go_wp2_with fail
                  go_meet
                  exact ⟨by rw [HB.out]; exact congrArg Value.bool (decide_eq_false (by omega)), rfl⟩
        case rest =>
          obtain ⟨rfl, rfl⟩ := hcut
          clear hl1 hov
          go_upto_if 56 with fail
          go_cut [] (fun wt => Inv w w.heap.size br bc ba bw bo bt bf base (prs bl (stepObj (S i)) g og) own1 (seen (sigR S i) (S i)) wt)
          case first =>
            as_aux_lemma =>
              have hstr := HS.out.c2
              have hfr := HS.out.fr 2
              cases hbd : bad (sigR S i) (S i)
              · have HE : Hid (seen (sigR S i) (S i) = sigR S i) := by show seen (sigR S i) (S i) = sigR S i; simp [seen, hbd]
                go_wp2_with fail
                go_meet
                rw [HE.out]; exact HS.out
              · have HE : Hid (seen (sigR S i) (S i) = { sigR S i with str := false }) := by show seen (sigR S i) (S i) = { sigR S i with str := false }; simp [seen, hbd]
                go_wp2_with fail
                go_meet
                rw [HE.out]; exact HS.out.set2 false
          case rest =>
            clear HS s0 s1 s2
            have HI2 : Hid (Inv w w.heap.size br bc ba bw bo bt bf base (prs bl (stepObj (S i)) g og) own1 (seen (sigR S i) (S i)) wc) := hcut
            clear hcut
            have s0 := HI2.out.step.c0
            have s1 := HI2.out.step.c1
            have s2 := HI2.out.step.c2
            rw [HK.out] at s0
            have hlens : (∀ k, ((seen (sigR S i) (S i)).wrs k).length ≤ 4000) ∧ (∀ t, ((seen (sigR S i) (S i)).wrt t).length ≤ 4000) ∧ (∀ t, ((seen (sigR S i) (S i)).rdf t).length ≤ 4000) := by
              obtain ⟨a1, a2, a3⟩ := lens S i
              exact ⟨fun k => Nat.le_trans (a1 k) (by omega), fun k => Nat.le_trans (a2 k) (by omega), fun k => Nat.le_trans (a3 k) (by omega)⟩
            have HLEN : Hid _ := hlens
            clear hlens
            obtain ⟨σ2, hσ2⟩ : ∃ σ2, seen (sigR S i) (S i) = σ2 := ⟨_, rfl⟩
            rw [hσ2] at HI2 HLEN
            have HSEEN : Hid (seen (sigR S i) (S i) = σ2) := hσ2
            clear hσ2
            obtain ⟨wv, hown, hcd, hlw, happ, hset⟩ := HI2.out.atW (S i).ky
            have hl0 := hlw wc rfl
            have HSET : Hid _ := hset
            have HCD : Hid (∀ g, wv.ownBlock = some g → own1 g = cW (S i).ky) := hcd
            have HOW : Hid (wc.ownsRow base 3 1 wv (σ2.wrs (S i).ky).length ((σ2.wrs (S i).ky).map (Value.int .i64))) := hown
            clear hlw happ hset hcd hown
            go_wp2_with fail
            clear hl0
            go_loopg [13] (σ2.wrs (S i).ky).length (fun gn v wx => wc = wx ∧ ∃ xs : List Int, gn = xs.length ∧ xs.length ≤ (σ2.wrs (S i).ky).length ∧ dropAb σ2.abo xs = dropAb σ2.abo (σ2.wrs (S i).ky) ∧ wc.ownsRow base 3 1 v xs.length (xs.map (Value.int .i64)) ∧ ∀ g, v.ownBlock = some g → own1 g = cW (S i).ky)
            case atStart => exact ⟨rfl, σ2.wrs (S i).ky, rfl, Nat.le_refl _, rfl, HOW.out, HCD.out⟩
            case round =>
              clear HOW HCD
              obtain ⟨rfl, xs, hgx, hxl, hdr, hown, hcd⟩ := hrel
              have hlx : xs.length ≤ 4000 := Nat.le_trans hxl (HLEN.out.1 (S i).ky)
              have HGX : Hid (gk = xs.length) := hgx
              have HXL : Hid (xs.length ≤ (σ2.wrs (S i).ky).length) := hxl
              clear hgx hxl
              rcases List.eq_nil_or_concat xs with rfl | ⟨ys, a, rfl⟩
              · as_aux_lemma =>
                  -- nobody is left
                  have HW : Hid (dropAb σ2.abo (σ2.wrs (S i).ky) = []) := hdr.symm
                  obtain ⟨va, vc, rfl⟩ : ∃ va vc, u13 = .slice va 0 vc := by
                    rcases hown.2 with ⟨h, _⟩ | ⟨g', cap', cur, h, _⟩
                    · exact ⟨_, _, h⟩
                    · exact ⟨_, _, h⟩
                  obtain ⟨w5, hup5, hI5, hg5⟩ := HSET.out _ [] hown hcd
                  have HE : Hid (sigR S (i + 1) = { σ2 with wrs := updS σ2.wrs (S i).ky [] }) := by
                    show sigR S (i + 1) = _
                    have hab : σ2.abo = (sigR S i).abo := by rw [← HSEEN.out]; rfl
                    have hwr : σ2.wrs = (sigR S i).wrs := by rw [← HSEEN.out]; rfl
                    rw [sigR, step_one _ _ HK.out, HSEEN.out, ← hab, ← hwr, HW.out]
                    rfl
                  have HI5 : Hid (Inv w w.heap.size br bc ba bw bo bt bf base (prs bl (stepObj (S i)) g og) own1 { σ2 with wrs := updS σ2.wrs (S i).ky [] } w5) := hI5
                  have s1' := hI5.step.c1
                  clear hdr hown hcd hI5 hg5
                  go_wp2_with fail
                  go_quiet (fail)
                  go_wp2_with fail
                  go_roundg (n - (i + 1))
                  case measure => rw [HGK.out]; omega
                  case rel => exact ⟨i + 1, rfl, by omega, by go_num, _, by rw [HE.out]; exact (HI5.out.drewN _).back hgbl⟩
              · rw [List.concat_eq_append] at hlx hown hdr HGX HXL
                have hle : (ys ++ [a]).length = ys.length + 1 := by simp
                rw [hle] at hlx hown
                obtain ⟨gv, cv, rfl, hgv, hgv2⟩ := hown.form (by omega)
                have hcell : wc.cell? ⟨gv, ys.length, none⟩ = some (.int .i64 a) := by
                  rw [hown.cellAt ys.length (by omega)]
                  simp
                have hla := HI2.out.ma.look a
                have HOWN : Hid (wc.ownsRow base 3 1 (.slice (some ⟨gv, 0, none⟩) (ys.length + 1) cv) (ys.length + 1) ((ys ++ [a]).map (Value.int .i64))) := hown
                have HCD : Hid (own1 gv = cW (S i).ky) := hcd gv rfl
                have HDR : Hid (dropAb σ2.abo (ys ++ [a]) = dropAb σ2.abo (σ2.wrs (S i).ky)) := hdr
                have hcv : ys.length + 1 ≤ cv := by
                  rcases hown.2 with ⟨h, _⟩ | ⟨g', cap', cur, h, _, _, h5, _⟩
                  · cases h
                  · simp only [Value.slice.injEq, Option.some.injEq, Addr.mk.injEq, and_true, true_and] at h
                    omega
                have hpop : wc.ownsRow base 3 1 (.slice (some ⟨gv, 0, none⟩) ys.length cv) ys.length (ys.map (Value.int .i64)) := by
                  have := hown
                  rw [List.map_append] at this
                  exact ownsRow_pop (by simp) this
                have HPOP : Hid _ := hpop
                clear hown hcd hdr hpop hle
                rw [show (ys ++ [a]).length = ys.length + 1 by simp] at HGX HXL
                cases hab : σ2.abo a
                · have HW : Hid (dropAb σ2.abo (σ2.wrs (S i).ky) = ys ++ [a]) := by show dropAb σ2.abo (σ2.wrs (S i).ky) = ys ++ [a]; rw [← HDR.out, dropAb_concat, hab]; rfl
                  rw [hab] at hla
                  clear hab
                  obtain ⟨w5, hup5, hI5, hg5⟩ := HSET.out (.slice (some ⟨gv, 0, none⟩) (ys.length + 1) cv) (ys ++ [a]) (by simpa using HOWN.out) (fun g' hg' => by simp [Value.ownBlock] at hg'; subst hg'; exact HCD.out)
                  have hab2 : σ2.abo = (sigR S i).abo := by rw [← HSEEN.out]; rfl
                  have hwr2 : σ2.wrs = (sigR S i).wrs := by rw [← HSEEN.out]; rfl
                  have hstep : sigR S (i + 1) = readTo σ2 (S i) (ys ++ [a]) := by rw [sigR, step_one _ _ HK.out, HSEEN.out, ← hab2, ← hwr2, HW.out]
                  have HSTEP : Hid (sigR S (i + 1) = readTo σ2 (S i) (ys ++ [a])) := hstep
                  have HI5 : Hid (Inv w w.heap.size br bc ba bw bo bt bf base (prs bl (stepObj (S i)) g og) own1 { σ2 with wrs := updS σ2.wrs (S i).ky (ys ++ [a]) } w5) := hI5
                  have s1' := hI5.step.c1
                  have hcell' : w5.cell? ⟨gv, ys.length, none⟩ = some (.int .i64 a) := hg5.cell hcell (by simp; omega)
                  clear hI5 hg5 hab2 hwr2 hstep HPOP HOWN HDR HGX HXL HW
                  generalize hm : ys.length = m at *
                  clear hm
                  have hm1 : (0 : Int) < (m : Int) + 1 := by omega
                  have hm2 : (m : Int) < (m : Int) + 1 := by omega
                  by_cases hat : a = (S i).tx
                  · as_aux_lemma =>
                      have HE : Hid (sigR S (i + 1) = { σ2 with wrs := updS σ2.wrs (S i).ky (ys ++ [a]) }) := by
                        show sigR S (i + 1) = _
                        rw [HSTEP.out, readTo]
                        simp [hat]
                      have hnq : (a != (S i).tx) = false := by simp [hat]
                      have HAT : Hid (a = (S i).tx) := hat
                      clear hat
                      go_wp2_with fail
                      go_quiet (fail)
                      go_wp2_with fail
                      go_roundg (n - (i + 1))
                      case measure => rw [HGK.out]; omega
                      case rel => exact ⟨i + 1, rfl, by omega, by go_num, _, by rw [HE.out]; exact (HI5.out.drewN _).back hgbl⟩
                  · have HE : Hid (sigR S (i + 1) = { σ2 with wrs := updS σ2.wrs (S i).ky (ys ++ [a]), cas := σ2.cas && σ2.com a, rdf := updI σ2.rdf (S i).tx (σ2.rdf (S i).tx ++ [a]) }) := by
                      show sigR S (i + 1) = _
                      have hq : (a == (S i).tx) = false := by simpa using hat
                      rw [HSTEP.out, readTo]
                      simp [hq]
                    have hnq : (a != (S i).tx) = true := by simpa using hat
                    clear hat
                    go_wp2_with fail
                    go_quiet (fail)
                    go_upto_region 30 with fail
                    have HI6 : Hid (Inv w w.heap.size br bc ba bw bo bt bf base (prs bl (stepObj (S i)) g og) own1 { σ2 with wrs := updS σ2.wrs (S i).ky (ys ++ [a]) } (w5.drewN nq)) := HI5.out.drewN _
                    clear HI5 hup5 s1' hcell' hcell hla hcv hgv hgv2 s0 s1 s2 hnq
                    generalize w5.drewN nq = w6 at *
                    have hc1 := HI6.out.c1
                    have hf1 := HI6.out.fr 1
                    have hlc := HI6.out.mc.look a
                    have HI7 : Hid (Inv w w.heap.size br bc ba bw bo bt bf base (prs bl (stepObj (S i)) g og) own1 { σ2 with wrs := updS σ2.wrs (S i).ky (ys ++ [a]), cas := σ2.cas && σ2.com a } (w6.setCell ⟨br, 1, none⟩ (.bool (σ2.cas && σ2.com a)))) := HI6.out.set1 (σ2.cas && σ2.com a)
                    go_cut [] (fun wx => wx = w6.setCell ⟨br, 1, none⟩ (.bool (σ2.cas && σ2.com a)))
                    case first =>
                      as_aux_lemma =>
                        cases hcs : σ2.cas
                        · rw [hcs] at hc1
                          go_wp2_with fail
                          go_meet
                          first | rfl | (rw [hcs]; rfl) | simp [hcs]
                        · rw [hcs] at hc1
                          go_wp2_with fail
                          go_meet
                          first | rfl | (rw [hcs]; rfl) | simp [hcs]
                    case rest =>
                      as_aux_lemma =>
                        subst hcut
                        clear hc1 hf1 hlc HI6
                        generalize w6.setCell ⟨br, 1, none⟩ (.bool (σ2.cas && σ2.com a)) = w7 at *
                        have s1 := HI7.out.step.c1
                        obtain ⟨i0, hi0, hz0, hz1, hz2⟩ := info_parts Yba.info3
                        obtain ⟨fv, hown, hcd, hlw, happ, hset⟩ := HI7.out.atF (S i).tx
                        have hlen := HLEN.out.2.2 (S i).tx
                        have hsz := HI7.out.sz
                        have hbl2 := HI7.out.step.lt
                        have hbf := HI7.out.mf.lt
                        have hla := hlw w7.drew rfl
                        have hlb := hlw (w7.alloc (.cells #[.int .i64 a] 3)).drew (Below.heap_alloc _ _ _ hbf)
                        have hnb : fv.ownBlock ≠ some bl := fun e => by have q := hcd bl e; have q2 := HI7.out.blOwn hbl; rw [q] at q2; simp [cF] at q2
                        clear hlw hset
                        go_upto_region 31 with fail
                        go_region_held3 (fun w' => w'.cell? ⟨bl, 1, none⟩ = some (.int .i64 (S i).tx))
                          (first
                            | go_keep
                            | exact kc1
                            | exact kd1)
                          ((refine step_append_lies _ (by rfl) _ _ _ (by rfl) base 3 i0 _ 1 8 Yba.underlying45 hi0 hz0 hz1 hz2 rfl (by omega) fv (σ2.rdf (S i).tx).length ((σ2.rdf (S i).tx).map (Value.int .i64)) (by rfl) ((hown.alloc _).drew)
                              ⟨w7.heap.size, 0, none⟩ 1 1 [.int .i64 a] (by rfl) (by rfl) (World.news_of_block (cs := #[.int .i64 a]) (t := 3) (fr := (0, 0)) (heap_alloc_new w7 _)) (by simp [Value.oneCell'])
                              (by omega) (by unfold maxLen; omega) (by omega) (by simp; omega) (w7.heap.size + 1) (by simp) ?_; intro gg cap2 w8 hown8 hgrow hat hlt8
                            have hgw := grown_two hgrow
                            obtain ⟨w9, own9, hup9, hI9, hg9⟩ := happ w8 gg cap2 a hgw hown8 (hat.imp id (fun h => by omega))
                            have kc1 : w8.cell? ⟨bl, 1, none⟩ = some (.int .i64 (S i).tx) := hgw.cell s1 (by simpa using hnb.symm)
                            have kd1 := hI9.step.c1
                            have HI9 : Hid (Inv w w.heap.size br bc ba bw bo bt bf base (prs bl (stepObj (S i)) g og) own9 { σ2 with wrs := updS σ2.wrs (S i).ky (ys ++ [a]), cas := σ2.cas && σ2.com a, rdf := updI σ2.rdf (S i).tx (σ2.rdf (S i).tx ++ [a]) } w9) := hI9
                            dsimp only at hup9
                            clear hI9 happ hown8 hgrow hat hgw hg9))
                        all_goals
                          go_wp2_with fail
                          go_roundg (n - (i + 1))
                          case measure => rw [HGK.out]; omega
                          case rel => exact ⟨i + 1, rfl, by omega, by go_num, _, by rw [HE.out]; exact HI9.out.back hgbl⟩
                · as_aux_lemma =>
                    have HD2 : Hid (dropAb σ2.abo (ys ++ [a]) = dropAb σ2.abo ys) := by show dropAb σ2.abo (ys ++ [a]) = dropAb σ2.abo ys; rw [dropAb_concat, hab]; rfl
                    rw [hab] at hla
                    clear hab
                    generalize hm : ys.length = m at *
                    have HM : Hid (ys.length = m) := hm
                    clear hm
                    have hm1 : (0 : Int) < (m : Int) + 1 := by omega
                    go_wp2_with fail
                    go_roundg m
                    case measure => rw [HGX.out]; omega
                    case rel => exact ⟨rfl, ys, HM.out.symm, by have := HXL.out; have := HM.out; omega, by rw [← HD2.out]; exact HDR.out, by have := HM.out; rw [this]; exact HPOP.out, fun g' hg' => by simp [Value.ownBlock] at hg'; subst hg'; exact HCD.out⟩
      · rw [hk] at s0
        have HK : Hid ((S i).kd = 2) := hk
        clear hk
        have ord := HS.out.ord
        obtain ⟨ov, hlo, hov⟩ := HS.out.atO (S i).ky
        have hl1 := hlo ws rfl
        clear hlo
        go_upto_region 15 with fail
        go_cut [56] (fun c wx => c = .bool (bad (sigR S i) (S i)) ∧ wx = ws)
        case first =>
          as_aux_lemma =>
            rcases hov with ⟨rfl, hnil⟩ | ⟨r, rfl, hr, _, hmp, hback⟩
            · have HBAD : Hid (bad (sigR S i) (S i) = false) := by show bad (sigR S i) (S i) = false; simp [bad, hnil]
              clear hnil
              go_wp2_with fail
              go_meet
              exact ⟨by rw [HBAD.out], rfl⟩
            · have hln := hmp.len (P := Yba.prog) (kt := 3) Yba.underlying39 3
              rw [show (trues ((sigR S i).opn (S i).ky)).length = ((sigR S i).opn (S i).ky).length by simp [trues]] at hln
              have hlk := hmp.look keyI Yba.underlying39 (zero4 ws) (S i).tx
              rw [getL_trues] at hlk
              have hB : bad (sigR S i) (S i) = (decide (1 < ((sigR S i).opn (S i).ky).length) || (decide (((sigR S i).opn (S i).ky).length = 1) && !(((sigR S i).opn (S i).ky).contains (S i).tx))) := rfl
              clear hmp hback
              generalize ((sigR S i).opn (S i).ky).contains (S i).tx = cc at *
              generalize ((sigR S i).opn (S i).ky).length = ln at *
              by_cases h2 : 1 < ln
              · have h2' : (1 : Int) < (ln : Int) := by omega
                have HB : Hid (bad (sigR S i) (S i) = true) := by show bad (sigR S i) (S i) = true; rw [hB]; simp [h2]
                clear hB
                go_wp2_with fail
                go_meet
                exact ⟨by rw [HB.out], rfl⟩
              · by_cases h1 : ln = 1
                · subst h1
                  have HB : Hid (bad (sigR S i) (S i) = !cc) := by show bad (sigR S i) (S i) = !cc; rw [hB]; simp
                  clear hB
                  go_wp2_with fail
                  go_meet
                  exact ⟨by rw [HB.out], rfl⟩
                · have h1' : ((ln : Int) == 1) = false := by simp; omega
                  have HB : Hid (bad (sigR S i) (S i) = false) := by show bad (sigR S i) (S i) = false; rw [hB]; simp [h1, h2]
                  clear hB
                  go_wp2_with fail
                  go_meet
                  exact ⟨by rw [HB.out]; exact congrArg Value.bool (decide_eq_false (by omega)), rfl⟩
        case rest =>
          obtain ⟨rfl, rfl⟩ := hcut
          clear hl1 hov
          go_upto_if 56 with fail
          go_cut [] (fun wt => Inv w w.heap.size br bc ba bw bo bt bf base (prs bl (stepObj (S i)) g og) own1 (seen (sigR S i) (S i)) wt)
          case first =>
            as_aux_lemma =>
              have hstr := HS.out.c2
              have hfr := HS.out.fr 2
              cases hbd : bad (sigR S i) (S i)
              · have HE : Hid (seen (sigR S i) (S i) = sigR S i) := by show seen (sigR S i) (S i) = sigR S i; simp [seen, hbd]
                go_wp2_with fail
                go_meet
                rw [HE.out]; exact HS.out
              · have HE : Hid (seen (sigR S i) (S i) = { sigR S i with str := false }) := by show seen (sigR S i) (S i) = { sigR S i with str := false }; simp [seen, hbd]
                go_wp2_with fail
                go_meet
                rw [HE.out]; exact HS.out.set2 false
          case rest =>
            clear HS s0 s1 s2
            have HI2 : Hid (Inv w w.heap.size br bc ba bw bo bt bf base (prs bl (stepObj (S i)) g og) own1 (seen (sigR S i) (S i)) wc) := hcut
            clear hcut
            have s0 := HI2.out.step.c0
            have s1 := HI2.out.step.c1
            have s2 := HI2.out.step.c2
            rw [HK.out] at s0
            have hlens : (∀ k, ((seen (sigR S i) (S i)).wrs k).length ≤ 4000) ∧ (∀ t, ((seen (sigR S i) (S i)).wrt t).length ≤ 4000) ∧ (∀ t, ((seen (sigR S i) (S i)).rdf t).length ≤ 4000) := by
              obtain ⟨a1, a2, a3⟩ := lens S i
              exact ⟨fun k => Nat.le_trans (a1 k) (by omega), fun k => Nat.le_trans (a2 k) (by omega), fun k => Nat.le_trans (a3 k) (by omega)⟩
            have HLEN : Hid _ := hlens
            clear hlens
            obtain ⟨σ2, hσ2⟩ : ∃ σ2, seen (sigR S i) (S i) = σ2 := ⟨_, rfl⟩
            rw [hσ2] at HI2 HLEN
            have HSEEN : Hid (seen (sigR S i) (S i) = σ2) := hσ2
            clear hσ2
            obtain ⟨i0, hi0, hz0, hz1, hz2⟩ := info_parts Yba.info3
            obtain ⟨wv, hown, hcd, hlw, happ, hset⟩ := HI2.out.atW (S i).ky
            have hlen := HLEN.out.1 (S i).ky
            have hsz := HI2.out.sz
            have hbl2 := HI2.out.step.lt
            have hbw := HI2.out.mw.lt
            have hla := hlw wc.drew rfl
            have hlb := hlw (wc.alloc (.cells #[.int .i64 (S i).tx] 3)).drew (Below.heap_alloc _ _ _ hbw)
            have hnb : wv.ownBlock ≠ some bl := fun e => by have q := hcd bl e; have q2 := HI2.out.blOwn hbl; rw [q] at q2; simp [cW] at q2
            clear hlw hset
            go_upto_region 18 with fail
            go_cut [] (fun wx => ∃ own4, Inv w w.heap.size br bc ba bw bo bt bf base (prs bl (stepObj (S i)) g og) own4 { σ2 with wrs := updS σ2.wrs (S i).ky (σ2.wrs (S i).ky ++ [(S i).tx]) } wx)
            case first =>
              as_aux_lemma =>
                go_region_held3 (fun w' => w'.cell? ⟨bl, 1, none⟩ = some (.int .i64 (S i).tx) ∧ w'.cell? ⟨bl, 2, none⟩ = some (.string (S i).ky))
                  (first
                    | (go_split_ands; exact ⟨by go_keep, by go_keep⟩)
                    | (go_split_ands; exact ⟨kc1, kc2⟩)
                    | (go_split_ands; exact ⟨kd1, kd2⟩))
                  ((refine step_append_lies _ (by rfl) _ _ _ (by rfl) base 3 i0 _ 1 8 Yba.underlying45 hi0 hz0 hz1 hz2 rfl (by omega) wv (σ2.wrs (S i).ky).length ((σ2.wrs (S i).ky).map (Value.int .i64)) (by rfl) ((hown.alloc _).drew)
                      ⟨wc.heap.size, 0, none⟩ 1 1 [.int .i64 (S i).tx] (by rfl) (by rfl) (World.news_of_block (cs := #[.int .i64 (S i).tx]) (t := 3) (fr := (0, 0)) (heap_alloc_new wc _)) (by simp [Value.oneCell'])
                      (by omega) (by unfold maxLen; omega) (by omega) (by simp; omega) (wc.heap.size + 1) (by simp) ?_; intro gg cap2 w3 hown3 hgrow hat hlt3
                    have hgw := grown_two hgrow
                    obtain ⟨w4, own4, hup, hI4, hg4⟩ := happ w3 gg cap2 (S i).tx hgw hown3 (hat.imp id (fun h => by omega))
                    have kc1 : w3.cell? ⟨bl, 1, none⟩ = some (.int .i64 (S i).tx) := hgw.cell s1 (by simpa using hnb.symm)
                    have kc2 : w3.cell? ⟨bl, 2, none⟩ = some (.string (S i).ky) := hgw.cell s2 (by simpa using hnb.symm)
                    have kd1 := hI4.step.c1
                    have kd2 := hI4.step.c2
                    have HI4 : Hid (Inv w w.heap.size br bc ba bw bo bt bf base (prs bl (stepObj (S i)) g og) own4 { σ2 with wrs := updS σ2.wrs (S i).ky (σ2.wrs (S i).ky ++ [(S i).tx]) } w4) := hI4
                    clear hI4 happ hown3 hgrow hat hgw))
                all_goals (go_wp2_with fail; go_meet; exact ⟨_, HI4.out⟩)
            case rest =>
              obtain ⟨own4, hcut⟩ := hcut
              clear hown hcd happ hlen hsz hbl2 hbw hla hlb hnb HI2 s0 s1 s2 hi0 hz0 hz1 hz2
              have HI3 : Hid (Inv w w.heap.size br bc ba bw bo bt bf base (prs bl (stepObj (S i)) g og) own4 { σ2 with wrs := updS σ2.wrs (S i).ky (σ2.wrs (S i).ky ++ [(S i).tx]) } wc) := hcut
              clear hcut
              have s1 := HI3.out.step.c1
              have s2 := HI3.out.step.c2
              obtain ⟨ov, hlo, hov⟩ := HI3.out.atO (S i).ky
              have hl1 := hlo wc rfl
              have hmm := @run_makeMap Yba.prog
              have q39 : ∀ (w : World) (r : Option Nat), (binOp .eql 39 (.map r) (.map none)).run Yba.prog w = .ok (.bool r.isNone) w := fun w r => run_eql_map_nil w _ _ _ r Yba.underlying39
              obtain ⟨r0, rfl⟩ : ∃ r0, ov = .map r0 := by
                rcases hov with ⟨rfl, _⟩ | ⟨r, rfl, _⟩
                · exact ⟨_, rfl⟩
                · exact ⟨_, rfl⟩
              have HOV : Hid _ := hov
              clear hov hlo
              go_upto_if 76 with fail
              go_cut [] (fun wx => ∃ own5 r, Inv w w.heap.size br bc ba bw bo bt bf base (prs bl (stepObj (S i)) g og) own5 { σ2 with wrs := updS σ2.wrs (S i).ky (σ2.wrs (S i).ky ++ [(S i).tx]) } wx ∧ (Instr.lookup 41 (.map (some bo)) (.string (S i).ky) false).run Yba.prog wx = .ok (.map (some r)) wx)
              case first =>
                as_aux_lemma =>
                  cases r0 with
                  | none =>
                    have hnil : σ2.opn (S i).ky = [] := by
                      rcases HOV.out with ⟨_, h⟩ | ⟨r, h, _⟩
                      · exact h
                      · cases h
                    obtain ⟨w5, own5, hup5, hI5, hg5, hlk5⟩ := HI3.out.makeO (S i).ky hnil
                    have HI5 : Hid _ := hI5
                    have HLK5 : Hid _ := hlk5
                    have s2' : (wc.alloc (.map #[] 0)).cell? ⟨bl, 2, none⟩ = some (.string (S i).ky) := (HI3.out.alloc (.map #[] 0)).step.c2
                    clear hI5 hlk5 hg5 hnil hl1
                    go_wp2_with fail
                    go_meet
                    exact ⟨own5, _, HI5.out, HLK5.out⟩
                  | some r =>
                    go_wp2_with fail
                    go_meet
                    exact ⟨own4, r, HI3.out, hl1⟩
              case rest =>
                obtain ⟨own5, r, hI5, hlk5⟩ := hcut
                clear HI3 s1 s2 hl1 HOV hmm q39
                have HI5 : Hid (Inv w w.heap.size br bc ba bw bo bt bf base (prs bl (stepObj (S i)) g og) own5 { σ2 with wrs := updS σ2.wrs (S i).ky (σ2.wrs (S i).ky ++ [(S i).tx]) } wc) := hI5
                have s1 := hI5.step.c1
                have s2 := hI5.step.c2
                obtain ⟨ov, hlo, hov⟩ := hI5.atO (S i).ky
                have hov' : ov = .map (some r) := by
                  have := hlo wc rfl
                  rw [hlk5] at this
                  simpa using this.symm
                subst hov'
                rcases hov with ⟨h, _⟩ | ⟨r', h, hr, _, hmp, hback⟩
                · cases h
                simp only [Value.map.injEq, Option.some.injEq] at h
                subst h
                have hlk := hmp.look keyI Yba.underlying39 (zero4 wc) (S i).tx
                rw [getL_trues] at hlk
                clear hlo hI5
                by_cases hc : (σ2.opn (S i).ky).contains (S i).tx = true
                · as_aux_lemma =>
                    rw [show ({ σ2 with wrs := updS σ2.wrs (S i).ky (σ2.wrs (S i).ky ++ [(S i).tx]) } : Sig).opn (S i).ky = σ2.opn (S i).ky from rfl, hc] at hlk
                    have HE : Hid (sigR S (i + 1) = { σ2 with wrs := updS σ2.wrs (S i).ky (σ2.wrs (S i).ky ++ [(S i).tx]) }) := by
                      show sigR S (i + 1) = _
                      rw [sigR, step_two _ _ HK.out, HSEEN.out, wrote, if_pos hc]
                    clear hmp hback hc
                    go_wp2_with fail
                    go_roundg (n - (i + 1))
                    case measure => rw [HGK.out]; omega
                    case rel => exact ⟨i + 1, rfl, by omega, by go_num, _, by rw [HE.out]; exact HI5.out.back hgbl⟩
                · as_aux_lemma =>
                    have hc' : (σ2.opn (S i).ky).contains (S i).tx = false := by simpa using hc
                    rw [show ({ σ2 with wrs := updS σ2.wrs (S i).ky (σ2.wrs (S i).ky ++ [(S i).tx]) } : Sig).opn (S i).ky = σ2.opn (S i).ky from rfl, hc'] at hlk
                    have HE : Hid (sigR S (i + 1) = { σ2 with wrs := updS σ2.wrs (S i).ky (σ2.wrs (S i).ky ++ [(S i).tx]), opn := updS σ2.opn (S i).ky (σ2.opn (S i).ky ++ [(S i).tx]), wrt := updI σ2.wrt (S i).tx (σ2.wrt (S i).tx ++ [(S i).ky]) }) := by
                      show sigR S (i + 1) = _
                      rw [sigR, step_two _ _ HK.out, HSEEN.out, wrote, if_neg hc]
                    obtain ⟨w6, hup6, hm6, hg6, hz6⟩ := hmp.put keyI Yba.underlying39 (S i).tx (.bool true)
                    rw [putL_trues _ _ hc'] at hm6
                    have hI6 := hback w6 _ hg6 hm6
                    have HI6 : Hid (Inv w w.heap.size br bc ba bw bo bt bf base (prs bl (stepObj (S i)) g og) own5 { σ2 with wrs := updS σ2.wrs (S i).ky (σ2.wrs (S i).ky ++ [(S i).tx]), opn := updS σ2.opn (S i).ky (σ2.opn (S i).ky ++ [(S i).tx]) } w6) := hI6
                    clear hback hc hc' hm6 hz6 hI6 hmp
                    go_upto_region 23 with fail
                    clear hup6 hlk hlk5 s1 s2 hg6 HI5
                    have s1 := HI6.out.step.c1
                    have s2 := HI6.out.step.c2
                    obtain ⟨i0, hi0, hz0, hz1, hz2⟩ := info_parts Yba.info9
                    obtain ⟨tv, hown, hcd, hlw, happ, hset⟩ := HI6.out.atT (S i).tx
                    have hlen := HLEN.out.2.1 (S i).tx
                    have hsz := HI6.out.sz
                    have hbl2 := HI6.out.step.lt
                    have hbt := HI6.out.mt.lt
                    have hla := hlw w6.drew rfl
                    have hlb := hlw (w6.alloc (.cells #[.string (S i).ky] 9)).drew (Below.heap_alloc _ _ _ hbt)
                    have hnb : tv.ownBlock ≠ some bl := fun e => by have q := hcd bl e; have q2 := HI6.out.blOwn hbl; rw [q] at q2; simp [cT] at q2
                    clear hlw hset
                    go_region_held3 (fun w' => w'.cell? ⟨bl, 1, none⟩ = some (.int .i64 (S i).tx) ∧ w'.cell? ⟨bl, 2, none⟩ = some (.string (S i).ky))
                      (first
                        | (go_split_ands; exact ⟨by go_keep, by go_keep⟩)
                        | (go_split_ands; exact ⟨kc1, kc2⟩)
                        | (go_split_ands; exact ⟨kd1, kd2⟩))
                      ((refine step_append_lies _ (by rfl) _ _ _ (by rfl) base 9 i0 _ 1 16 Yba.underlying46 hi0 hz0 hz1 hz2 rfl (by omega) tv (σ2.wrt (S i).tx).length ((σ2.wrt (S i).tx).map Value.string) (by rfl) ((hown.alloc _).drew)
                          ⟨w6.heap.size, 0, none⟩ 1 1 [.string (S i).ky] (by rfl) (by rfl) (World.news_of_block (cs := #[.string (S i).ky]) (t := 9) (fr := (0, 0)) (heap_alloc_new w6 _)) (by simp [Value.oneCell'])
                          (by omega) (by unfold maxLen; omega) (by omega) (by simp; omega) (w6.heap.size + 1) (by simp) ?_; intro gg cap2 w7 hown7 hgrow hat hlt7
                        have hgw := grown_two hgrow
                        obtain ⟨w8, own8, hup8, hI8, hg8⟩ := happ w7 gg cap2 (S i).ky hgw hown7 (hat.imp id (fun h => by omega))
                        have kc1 : w7.cell? ⟨bl, 1, none⟩ = some (.int .i64 (S i).tx) := hgw.cell s1 (by simpa using hnb.symm)
                        have kc2 : w7.cell? ⟨bl, 2, none⟩ = some (.string (S i).ky) := hgw.cell s2 (by simpa using hnb.symm)
                        have kd1 := hI8.step.c1
                        have kd2 := hI8.step.c2
                        have HI8 : Hid (Inv w w.heap.size br bc ba bw bo bt bf base (prs bl (stepObj (S i)) g og) own8 { σ2 with wrs := updS σ2.wrs (S i).ky (σ2.wrs (S i).ky ++ [(S i).tx]), opn := updS σ2.opn (S i).ky (σ2.opn (S i).ky ++ [(S i).tx]), wrt := updI σ2.wrt (S i).tx (σ2.wrt (S i).tx ++ [(S i).ky]) } w8) := hI8
                        dsimp only at hup8
                        clear hI8 happ hown7 hgrow hat hgw hg8))
                    all_goals
                      go_wp2_with fail
                      go_roundg (n - (i + 1))
                      case measure => rw [HGK.out]; omega
                      case rel => exact ⟨i + 1, rfl, by omega, by go_num, _, by rw [HE.out]; exact HI8.out.back hgbl⟩
      · as_aux_lemma =>
          rw [hk] at s0
          have HK : Hid ((S i).kd = 4) := hk
          clear hk
          have ord := HS.out.ord
          obtain ⟨tv, hown, hcd, hlw, happ, hset⟩ := HS.out.atT (S i).tx
          have hl0 := hlw ws rfl
          have hlt4 : ((sigR S i).wrt (S i).tx).length ≤ 4000 := Nat.le_trans ((lens S i).2.1 _) (by omega)
          obtain ⟨va, vc, rfl⟩ : ∃ va vc, tv = .slice va ((sigR S i).wrt (S i).tx).length vc := by
            rcases hown.2 with ⟨h, h0⟩ | ⟨g', cap', cur, h, _⟩
            · exact ⟨none, 0, by rw [h, h0]⟩
            · exact ⟨_, _, h⟩
          have HOWN : Hid (ws.ownsRow base 9 1 (.slice va ((sigR S i).wrt (S i).tx).length vc) ((sigR S i).wrt (S i).tx).length (((sigR S i).wrt (S i).tx).map Value.string)) := hown
          have HCD : Hid (∀ g, (Value.slice va ((sigR S i).wrt (S i).tx).length vc).ownBlock = some g → own1 g = cT (S i).tx) := hcd
          clear hlw happ hset hcd hown
          obtain ⟨ks, hks⟩ : ∃ ks, (sigR S i).wrt (S i).tx = ks := ⟨_, rfl⟩
          rw [hks] at HOWN HCD hlt4 hl0
          have HKS : Hid ((sigR S i).wrt (S i).tx = ks) := hks
          clear hks
          go_wp2_with fail
          clear hl0
          go_loopg [178] ks.length (fun gn jv wx => ∃ j : Nat, gn = ks.length - j ∧ j ≤ ks.length ∧ jv = .int .i64 j ∧ Inv w w.heap.size br bc ba bw bo bt bf base (prs bl (stepObj (S i)) g og) own1 { sigR S i with opn := delAll (S i).tx (sigR S i).opn (ks.take j) } wx ∧ wx.ownsRow base 9 1 (.slice va ks.length vc) ks.length (ks.map Value.string))
          case atStart => exact ⟨0, rfl, by omega, rfl, HS.out, HOWN.out⟩
          case round =>
            clear HOWN HS s0 s1 s2
            obtain ⟨j, hgj, hj, rfl, hIj, hown⟩ := hrel
            have HGJ : Hid (gk = ks.length - j) := hgj
            clear hgj
            have HIJ : Hid (Inv w w.heap.size br bc ba bw bo bt bf base (prs bl (stepObj (S i)) g og) own1 { sigR S i with opn := delAll (S i).tx (sigR S i).opn (ks.take j) } wr) := hIj
            have s0 := hIj.step.c0
            have s1 := hIj.step.c1
            rw [HK.out] at s0
            by_cases hjl : j < ks.length
            · have hjl' : (j : Int) < (ks.length : Int) := by omega
              obtain ⟨gt, ct, hva, hgt, hgt2⟩ := hown.form (by omega)
              simp only [Value.slice.injEq] at hva
              obtain ⟨rfl, _, rfl⟩ := hva
              have hcell : wr.cell? ⟨gt, j, none⟩ = some (.string ks[j]) := by
                rw [hown.cellAt j (by omega)]
                simp [List.getElem?_map, List.getElem?_eq_getElem hjl]
              obtain ⟨ov, hlo, hov⟩ := hIj.atO ks[j]
              have hl1 := hlo wr rfl
              have HT : Hid (delAll (S i).tx (sigR S i).opn (ks.take (j + 1)) = updS (delAll (S i).tx (sigR S i).opn (ks.take j)) ks[j] ((delAll (S i).tx (sigR S i).opn (ks.take j) ks[j]).erase (S i).tx)) := by
                show delAll _ _ _ = _
                rw [List.take_succ_eq_append_getElem hjl, delAll_snoc]
              have HOW2 : Hid (wr.ownsRow base 9 1 (.slice (some ⟨gt, 0, none⟩) ks.length vc) ks.length (ks.map Value.string)) := hown
              clear hlo hIj hown
              rcases hov with ⟨rfl, hnil⟩ | ⟨r, rfl, hr, hor, hmp, hback⟩
              · have hdel := fun ty => del_nilMap wr ty (S i).tx
                have HI2 : Hid (Inv w w.heap.size br bc ba bw bo bt bf base (prs bl (stepObj (S i)) g og) own1 { sigR S i with opn := delAll (S i).tx (sigR S i).opn (ks.take (j + 1)) } wr) := by
                  have e : delAll (S i).tx (sigR S i).opn (ks.take (j + 1)) = delAll (S i).tx (sigR S i).opn (ks.take j) := by
                    rw [HT.out]
                    funext x
                    unfold updS
                    split
                    · rename_i hx
                      have := (keyS.eq x ks[j]).1 hx
                      rw [this]
                      dsimp only at hnil
                      rw [hnil]
                      rfl
                    · rfl
                  show Inv _ _ _ _ _ _ _ _ _ _ _ _ _ _
                  rw [e]
                  exact HIJ.out
                clear hnil
                go_wp2_with fail
                go_roundg (ks.length - (j + 1))
                case measure => rw [HGJ.out]; omega
                case rel => exact ⟨j + 1, rfl, by omega, by go_num, HI2.out, HOW2.out⟩
              · obtain ⟨w5, hdel, hm5, hg5, _⟩ := hmp.del (P := Yba.prog) keyI Yba.underlying39 (S i).tx 0
                rw [delL_trues] at hm5
                have hI5 := hback w5 _ hg5 hm5
                have HI2 : Hid (Inv w w.heap.size br bc ba bw bo bt bf base (prs bl (stepObj (S i)) g og) own1 { sigR S i with opn := delAll (S i).tx (sigR S i).opn (ks.take (j + 1)) } w5) := by
                  show Inv _ _ _ _ _ _ _ _ _ _ _ _ _ _
                  rw [HT.out]
                  exact hI5
                have HOW3 : Hid (w5.ownsRow base 9 1 (.slice (some ⟨gt, 0, none⟩) ks.length vc) ks.length (ks.map Value.string)) := HOW2.out.kept hg5 (.inr (by
                  intro e
                  simp [Value.ownBlock] at e
                  have := HCD.out gt rfl
                  rw [e, hor] at this
                  simp [cO, cT] at this))
                clear hback hm5 hI5 hg5 hmp
                go_wp2_with fail
                go_roundg (ks.length - (j + 1))
                case measure => rw [HGJ.out]; omega
                case rel => exact ⟨j + 1, rfl, by omega, by go_num, HI2.out, HOW3.out⟩
            · have hje : j = ks.length := by omega
              subst hje
              rw [List.take_length] at HIJ
              have hjd : decide ((ks.length : Int) < (ks.length : Int)) = false := by simp
              clear hIj hown HCD hj hjl
              obtain ⟨w6, hup6, hI6, hg6⟩ := HIJ.out.putC (S i).tx
              have HI6 : Hid (Inv w w.heap.size br bc ba bw bo bt bf base (prs bl (stepObj (S i)) g og) own1 { sigR S i with opn := delAll (S i).tx (sigR S i).opn ks, com := updI (sigR S i).com (S i).tx true } w6) := hI6
              have s1' := hI6.step.c1
              obtain ⟨fv, hown, hcd, hlw, happ, hset⟩ := hI6.atF (S i).tx
              have hl0 := hlw w6 rfl
              have hlf : ((sigR S i).rdf (S i).tx).length ≤ 4000 := Nat.le_trans ((lens S i).2.2 _) (by omega)
              obtain ⟨fa, fc, rfl⟩ : ∃ fa fc, fv = .slice fa ((sigR S i).rdf (S i).tx).length fc := by
                rcases hown.2 with ⟨h, h0⟩ | ⟨g', cap', cur, h, _⟩
                · exact ⟨none, 0, by dsimp only at h0; rw [h, h0]⟩
                · exact ⟨_, _, h⟩
              have HOWN : Hid (w6.ownsRow base 3 1 (.slice fa ((sigR S i).rdf (S i).tx).length fc) ((sigR S i).rdf (S i).tx).length (((sigR S i).rdf (S i).tx).map (Value.int .i64))) := hown
              have HCD : Hid (∀ g, (Value.slice fa ((sigR S i).rdf (S i).tx).length fc).ownBlock = some g → own1 g = cF (S i).tx) := hcd
              clear hlw happ hset hcd hown hI6 hg6
              obtain ⟨fs, hfs⟩ : ∃ fs, (sigR S i).rdf (S i).tx = fs := ⟨_, rfl⟩
              rw [hfs] at HOWN HCD hlf hl0
              have HFS : Hid ((sigR S i).rdf (S i).tx = fs) := hfs
              clear hfs
              go_wp2_with fail
              clear hl0 hup6 s0 s1 HIJ hjd
              go_loopg [202] fs.length (fun gn jv wx => ∃ j : Nat, gn = fs.length - j ∧ j ≤ fs.length ∧ jv = .int .i64 j ∧ Inv w w.heap.size br bc ba bw bo bt bf base (prs bl (stepObj (S i)) g og) own1 { sigR S i with opn := delAll (S i).tx (sigR S i).opn ks, com := updI (sigR S i).com (S i).tx true, rcv := (sigR S i).rcv && (fs.take j).all (updI (sigR S i).com (S i).tx true) } wx ∧ wx.ownsRow base 3 1 (.slice fa fs.length fc) fs.length (fs.map (Value.int .i64)))
              case atStart => exact ⟨0, rfl, by omega, rfl, by simpa using HI6.out, HOWN.out⟩
              case round =>
                clear HOWN HI6 s1'
                obtain ⟨j, hgj, hj, rfl, hIj, hown⟩ := hrel
                have HGJ2 : Hid (gk = fs.length - j) := hgj
                clear hgj
                have HIJ : Hid (Inv w w.heap.size br bc ba bw bo bt bf base (prs bl (stepObj (S i)) g og) own1 { sigR S i with opn := delAll (S i).tx (sigR S i).opn ks, com := updI (sigR S i).com (S i).tx true, rcv := (sigR S i).rcv && (fs.take j).all (updI (sigR S i).com (S i).tx true) } wr) := hIj
                by_cases hjl : j < fs.length
                · have hjl' : (j : Int) < (fs.length : Int) := by omega
                  obtain ⟨gt, ct, hva, hgt, hgt2⟩ := hown.form (by omega)
                  simp only [Value.slice.injEq] at hva
                  obtain ⟨rfl, _, rfl⟩ := hva
                  have hcell : wr.cell? ⟨gt, j, none⟩ = some (.int .i64 fs[j]) := by
                    rw [hown.cellAt j (by omega)]
                    simp [List.getElem?_map, List.getElem?_eq_getElem hjl]
                  have hlc := hIj.mc.look fs[j]
                  have hc0 := hIj.c0
                  have hf0 := hIj.fr 0
                  dsimp only at hlc hc0
                  have HT : Hid ((fs.take (j + 1)).all (updI (sigR S i).com (S i).tx true) = ((fs.take j).all (updI (sigR S i).com (S i).tx true) && updI (sigR S i).com (S i).tx true fs[j])) := by
                    show List.all _ _ = _
                    rw [List.take_succ_eq_append_getElem hjl, List.all_append, List.all_cons, List.all_nil, Bool.and_true]
                  have HOW2 : Hid (wr.ownsRow base 3 1 (.slice (some ⟨gt, 0, none⟩) fs.length fc) fs.length (fs.map (Value.int .i64))) := hown
                  have HNE : Hid (gt ≠ br) := by show gt ≠ br; omega
                  clear hIj hown
                  generalize hcm : updI (sigR S i).com (S i).tx true fs[j] = cm at *
                  generalize hal : (fs.take j).all (updI (sigR S i).com (S i).tx true) = al at *
                  have HI2 : Hid (Inv w w.heap.size br bc ba bw bo bt bf base (prs bl (stepObj (S i)) g og) own1 { sigR S i with opn := delAll (S i).tx (sigR S i).opn ks, com := updI (sigR S i).com (S i).tx true, rcv := (sigR S i).rcv && (fs.take (j + 1)).all (updI (sigR S i).com (S i).tx true) } (wr.setCell ⟨br, 0, none⟩ (.bool ((sigR S i).rcv && al && cm)))) := by
                    have := HIJ.out.set0 ((sigR S i).rcv && al && cm)
                    show Inv _ _ _ _ _ _ _ _ _ _ _ _ _ _
                    rw [HT.out, ← Bool.and_assoc]
                    exact this
                  have HOW3 : Hid ((wr.setCell ⟨br, 0, none⟩ (.bool ((sigR S i).rcv && al && cm))).ownsRow base 3 1 (.slice (some ⟨gt, 0, none⟩) fs.length fc) fs.length (fs.map (Value.int .i64))) := HOW2.out.kept (grown_setCell _ _ _) (.inr (by simp [Value.ownBlock]; exact HNE.out))
                  clear hcm hal
                  cases hrc : ((sigR S i).rcv && al)
                  · rw [hrc] at hc0 HI2 HOW3
                    go_wp2_with fail
                    go_roundg (fs.length - (j + 1))
                    case measure => rw [HGJ2.out]; omega
                    case rel => exact ⟨j + 1, rfl, by omega, by go_num, HI2.out, HOW3.out⟩
                  · rw [hrc, Bool.true_and] at HI2 HOW3
                    rw [hrc] at hc0
                    go_wp2_with fail
                    go_roundg (fs.length - (j + 1))
                    case measure => rw [HGJ2.out]; omega
                    case rel => exact ⟨j + 1, rfl, by omega, by go_num, HI2.out, HOW3.out⟩
                · have hje : j = fs.length := by omega
                  subst hje
                  rw [List.take_length] at HIJ
                  have HE : Hid (sigR S (i + 1) = { sigR S i with opn := delAll (S i).tx (sigR S i).opn ks, com := updI (sigR S i).com (S i).tx true, rcv := (sigR S i).rcv && fs.all (updI (sigR S i).com (S i).tx true) }) := by
                    show sigR S (i + 1) = _
                    rw [sigR, stepR, if_neg (by rw [HK.out]; decide), if_neg (by rw [HK.out]; decide), if_neg (by rw [HK.out]; decide), if_pos HK.out, ended, HKS.out, HFS.out]
                  clear hIj hown HCD hj hjl
                  go_wp2_with fail
                  go_roundg (n - (i + 1))
                  case measure => rw [HGK.out]; omega
                  case rel => exact ⟨i + 1, rfl, by omega, by go_num, _, by rw [HE.out]; exact HIJ.out.back hgbl⟩
      · as_aux_lemma =>
          rw [hk] at s0
          have HK : Hid ((S i).kd = 5) := hk
          clear hk
          have ord := HS.out.ord
          obtain ⟨tv, hown, hcd, hlw, happ, hset⟩ := HS.out.atT (S i).tx
          have hl0 := hlw ws rfl
          have hlt4 : ((sigR S i).wrt (S i).tx).length ≤ 4000 := Nat.le_trans ((lens S i).2.1 _) (by omega)
          obtain ⟨va, vc, rfl⟩ : ∃ va vc, tv = .slice va ((sigR S i).wrt (S i).tx).length vc := by
            rcases hown.2 with ⟨h, h0⟩ | ⟨g', cap', cur, h, _⟩
            · exact ⟨none, 0, by rw [h, h0]⟩
            · exact ⟨_, _, h⟩
          have HOWN : Hid (ws.ownsRow base 9 1 (.slice va ((sigR S i).wrt (S i).tx).length vc) ((sigR S i).wrt (S i).tx).length (((sigR S i).wrt (S i).tx).map Value.string)) := hown
          have HCD : Hid (∀ g, (Value.slice va ((sigR S i).wrt (S i).tx).length vc).ownBlock = some g → own1 g = cT (S i).tx) := hcd
          clear hlw happ hset hcd hown
          obtain ⟨ks, hks⟩ : ∃ ks, (sigR S i).wrt (S i).tx = ks := ⟨_, rfl⟩
          rw [hks] at HOWN HCD hlt4 hl0
          have HKS : Hid ((sigR S i).wrt (S i).tx = ks) := hks
          clear hks
          go_wp2_with fail
          clear hl0
          go_loopg [178] ks.length (fun gn jv wx => ∃ j : Nat, gn = ks.length - j ∧ j ≤ ks.length ∧ jv = .int .i64 j ∧ Inv w w.heap.size br bc ba bw bo bt bf base (prs bl (stepObj (S i)) g og) own1 { sigR S i with opn := delAll (S i).tx (sigR S i).opn (ks.take j) } wx ∧ wx.ownsRow base 9 1 (.slice va ks.length vc) ks.length (ks.map Value.string))
          case atStart => exact ⟨0, rfl, by omega, rfl, HS.out, HOWN.out⟩
          case round =>
            clear HOWN HS s0 s1 s2
            obtain ⟨j, hgj, hj, rfl, hIj, hown⟩ := hrel
            have HGJ : Hid (gk = ks.length - j) := hgj
            clear hgj
            have HIJ : Hid (Inv w w.heap.size br bc ba bw bo bt bf base (prs bl (stepObj (S i)) g og) own1 { sigR S i with opn := delAll (S i).tx (sigR S i).opn (ks.take j) } wr) := hIj
            have s0 := hIj.step.c0
            have s1 := hIj.step.c1
            rw [HK.out] at s0
            by_cases hjl : j < ks.length
            · have hjl' : (j : Int) < (ks.length : Int) := by omega
              obtain ⟨gt, ct, hva, hgt, hgt2⟩ := hown.form (by omega)
              simp only [Value.slice.injEq] at hva
              obtain ⟨rfl, _, rfl⟩ := hva
              have hcell : wr.cell? ⟨gt, j, none⟩ = some (.string ks[j]) := by
                rw [hown.cellAt j (by omega)]
                simp [List.getElem?_map, List.getElem?_eq_getElem hjl]
              obtain ⟨ov, hlo, hov⟩ := hIj.atO ks[j]
              have hl1 := hlo wr rfl
              have HT : Hid (delAll (S i).tx (sigR S i).opn (ks.take (j + 1)) = updS (delAll (S i).tx (sigR S i).opn (ks.take j)) ks[j] ((delAll (S i).tx (sigR S i).opn (ks.take j) ks[j]).erase (S i).tx)) := by
                show delAll _ _ _ = _
                rw [List.take_succ_eq_append_getElem hjl, delAll_snoc]
              have HOW2 : Hid (wr.ownsRow base 9 1 (.slice (some ⟨gt, 0, none⟩) ks.length vc) ks.length (ks.map Value.string)) := hown
              clear hlo hIj hown
              rcases hov with ⟨rfl, hnil⟩ | ⟨r, rfl, hr, hor, hmp, hback⟩
              · have hdel := fun ty => del_nilMap wr ty (S i).tx
                have HI2 : Hid (Inv w w.heap.size br bc ba bw bo bt bf base (prs bl (stepObj (S i)) g og) own1 { sigR S i with opn := delAll (S i).tx (sigR S i).opn (ks.take (j + 1)) } wr) := by
                  have e : delAll (S i).tx (sigR S i).opn (ks.take (j + 1)) = delAll (S i).tx (sigR S i).opn (ks.take j) := by
                    rw [HT.out]
                    funext x
                    unfold updS
                    split
                    · rename_i hx
                      have := (keyS.eq x ks[j]).1 hx
                      rw [this]
                      dsimp only at hnil
                      rw [hnil]
                      rfl
                    · rfl
                  show Inv _ _ _ _ _ _ _ _ _ _ _ _ _ _
                  rw [e]
                  exact HIJ.out
                clear hnil
                go_wp2_with fail
                go_roundg (ks.length - (j + 1))
                case measure => rw [HGJ.out]; omega
                case rel => exact ⟨j + 1, rfl, by omega, by go_num, HI2.out, HOW2.out⟩
              · obtain ⟨w5, hdel, hm5, hg5, _⟩ := hmp.del (P := Yba.prog) keyI Yba.underlying39 (S i).tx 0
                rw [delL_trues] at hm5
                have hI5 := hback w5 _ hg5 hm5
                have HI2 : Hid (Inv w w.heap.size br bc ba bw bo bt bf base (prs bl (stepObj (S i)) g og) own1 { sigR S i with opn := delAll (S i).tx (sigR S i).opn (ks.take (j + 1)) } w5) := by
                  show Inv _ _ _ _ _ _ _ _ _ _ _ _ _ _
                  rw [HT.out]
                  exact hI5
                have HOW3 : Hid (w5.ownsRow base 9 1 (.slice (some ⟨gt, 0, none⟩) ks.length vc) ks.length (ks.map Value.string)) := HOW2.out.kept hg5 (.inr (by
                  intro e
                  simp [Value.ownBlock] at e
                  have := HCD.out gt rfl
                  rw [e, hor] at this
                  simp [cO, cT] at this))
                clear hback hm5 hI5 hg5 hmp
                go_wp2_with fail
                go_roundg (ks.length - (j + 1))
                case measure => rw [HGJ.out]; omega
                case rel => exact ⟨j + 1, rfl, by omega, by go_num, HI2.out, HOW3.out⟩
            · have hje : j = ks.length := by omega
              subst hje
              rw [List.take_length] at HIJ
              have hjd : decide ((ks.length : Int) < (ks.length : Int)) = false := by simp
              clear hIj hown HCD hj hjl
              obtain ⟨w6, hup6, hI6, hg6⟩ := HIJ.out.putA (S i).tx
              have HI6 : Hid (Inv w w.heap.size br bc ba bw bo bt bf base (prs bl (stepObj (S i)) g og) own1 { sigR S i with opn := delAll (S i).tx (sigR S i).opn ks, abo := updI (sigR S i).abo (S i).tx true } w6) := hI6
              have HE : Hid (sigR S (i + 1) = { sigR S i with opn := delAll (S i).tx (sigR S i).opn ks, abo := updI (sigR S i).abo (S i).tx true }) := by
                show sigR S (i + 1) = _
                rw [sigR, stepR, if_neg (by rw [HK.out]; decide), if_neg (by rw [HK.out]; decide), if_pos HK.out, ended, HKS.out]
              clear hI6 hg6
              go_wp2_with fail
              go_roundg (n - (i + 1))
              case measure => rw [HGK.out]; omega
              case rel => exact ⟨i + 1, rfl, by omega, by go_num, _, by rw [HE.out]; exact HI6.out.back hgbl⟩
    · as_aux_lemma =>
        have hie : i = n := by omega
        rw [hie] at hinv
        have HI : Hid (Inv w w.heap.size br bc ba bw bo bt bf base (pr1 g og) own (sigR S n) wr) := hinv
        have r0 := hinv.c0
        have r1 := hinv.c1
        have r2 := hinv.c2
        have q0 : wr.cell? ⟨w.heap.size, 0, none⟩ = some (.bool false) := by simp [World.cell?, hinv.res]
        have q1 : wr.cell? ⟨w.heap.size, 1, none⟩ = some (.bool false) := by simp [World.cell?, hinv.res]
        have q2 : wr.cell? ⟨w.heap.size, 2, none⟩ = some (.bool false) := by simp [World.cell?, hinv.res]
        have f0 : wr.frozen? ⟨w.heap.size, 0, none⟩ = false := by simp [World.frozen?, hinv.res]
        have f1 : wr.frozen? ⟨w.heap.size, 1, none⟩ = false := by simp [World.frozen?, hinv.res]
        have f2 : wr.frozen? ⟨w.heap.size, 2, none⟩ = false := by simp [World.frozen?, hinv.res]
        clear hinv hie
        go_wp2_with fail
        refine bodyPost_ret (v := .agg #[.bool (sigR S n).rcv, .bool (sigR S n).cas, .bool (sigR S n).str]) (by simp [results, Yba.results7, go_sem, q0, q1, q2]) rfl ⟨rfl, ?_⟩
        exact ((HI.out.bel.setCell (Nat.le_refl _) _).setCell (Nat.le_refl _) _).setCell (Nat.le_refl _) _

end Go.Proofs.Ybulkdao
