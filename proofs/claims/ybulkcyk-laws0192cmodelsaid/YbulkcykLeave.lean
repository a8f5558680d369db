/-
  (*search).leave (function 12), walked.
-/
import Derived.Test.YbulkcykSplit
import Derived.Test.YbulkcykRunLaw
namespace Go.Proofs.Ybulkcyk
open Go.RowKit
set_option linter.unusedSimpArgs false

theorem HV.tailMem2 {E : En} {own : Nat → Tag} {V : Tag → Value} {s : Hs} {w : World} (h : HV E own V s w) (p : Nat) (hp : p < s.tj.np) {g cap g2 cap2 : Nat} (hv : V .prt = .slice (some ⟨g, 0, none⟩) s.tj.np cap) (hm : V (.mem p) = .slice (some ⟨g2, s.off p, none⟩) (s.mem p).length cap2) (hl : 0 < (s.mem p).length) :
    HV E own (updV V (.mem p) (.slice (some ⟨g2, s.off p + 1, none⟩) ((s.mem p).length - 1) (cap2 - 1))) { s with mem := upd s.mem p (s.mem p).tail, off := upd s.off p (s.off p + 1) } (w.setCell ⟨g, p * 2, none⟩ (.slice (some ⟨g2, s.off p + 1, none⟩) ((s.mem p).length - 1) (cap2 - 1))) := by
  have hr := (h.mi.row (.mem p) _ (RwOf_mem hp)).1.tail rfl hm hl
  have M := h.mi.sub (t := .mem p) (RwOf_mem hp) hr (fun k hk => by
    rw [show (memRow V s p).v = V (.mem p) from rfl, hm]
    exact hk)
  exact HV.memPut (s := s) (l := (s.mem p).tail) (o := s.off p + 1) (held := s.held) (x := .slice (some ⟨g2, s.off p + 1, none⟩) ((s.mem p).length - 1) (cap2 - 1)) h.fx hp hv M (updT_other _ _ (by simp)) (by rw [updT_same]; simp [rowI, memRow, List.map_tail]) (by rw [updT_other _ _ (by simp)]; rfl) (fun t _ h2 _ => updT_other _ _ h2)
theorem upd_upd {α : Type} (f : Nat → α) (v : Nat) (x y : α) : upd (upd f v x) v y = upd f v y := by
  funext u
  by_cases h : u = v <;> simp [upd, h]
theorem RowP.block {B : Nat} {r : RowSpec} {w : World} (h : RowP B r w) {g o n cap : Nat} (hv : r.v = .slice (some ⟨g, o, none⟩) n cap) : ∃ cur, w.heap[g]? = some (.cells cur r.e (0, 0)) := by
  rcases h.2 with ⟨e, _⟩ | ⟨g', cap', cur, h1, _, h3, _⟩
  · rw [e] at hv; cases hv
  · rw [h1] at hv
    cases hv
    exact ⟨cur, h3⟩
theorem HV.memForm2 {E : En} {own : Nat → Tag} {V : Tag → Value} {s : Hs} {w : World} (h : HV E own V s w) {id : Nat} (hp : id < s.tj.np) (hl : 0 < (s.mem id).length) : ∃ g cap, V (.mem id) = .slice (some ⟨g, s.off id, none⟩) (s.mem id).length cap ∧ (s.mem id).length ≤ cap ∧ ∀ i, i < (s.mem id).length → w.cell? ⟨g, s.off id + i, none⟩ = some (iv ((s.mem id).getD i 0)) := by
  have hr := (h.mi.row (.mem id) _ (RwOf_mem hp)).1
  rcases hr.2 with ⟨e1, e2⟩ | ⟨g, cap, cur, h1, _, _, h4, h5, _⟩
  · have e2' : (s.mem id).length = 0 := e2
    omega
  · refine ⟨g, cap, h1, h4, fun i hi => ?_⟩
    exact hr.cell (i := i) (u := iv ((s.mem id).getD i 0)) h1 (by
      show ((s.mem id).map iv)[i]? = _
      rw [List.getElem?_map, List.getD_eq_getElem?_getD, List.getElem?_eq_getElem hi]
      rfl)
theorem SPre.npb {E : En} {st id : Nat} {s : Hs} (P : SPre E st id s) : s.tj.np ≤ (splitP E.A E.R E.n id (ssOf s)).tj.np ∧ (splitP E.A E.R E.n id (ssOf s)).tj.np ≤ s.tj.np + E.n := by
  have S := P.s1 (s.mem id).length
  rw [Tk_all] at S
  have h1 := (P.rr (s.mem id).length).2.1
  rw [Rr_all] at h1
  have e : (splitP E.A E.R E.n id (ssOf s)).tj.np = (Tz E.A E.n id s).np := h1
  have h2 := S.ti.nb
  have h3 := S.ti.npl
  rw [e]
  exact ⟨h3, by omega⟩
structure LvPre (E : En) (st id : Nat) (s : Hs) : Prop where
  pi : PI E.A E.n st (-1) (ssOf s)
  hst : st < E.n
  pof : s.tj.pof st = (id : Int)
  start : s.start = (st : Int)
  within : s.within = (id : Int)
  held : s.held = none
  off : ∀ p, s.tj.np ≤ p → s.off p = 0
  np : s.tj.np + E.n ≤ 1000
theorem leave_eq {E : En} {st id : Nat} {s : Hs} (P : LvPre E st id s) : leaveP E.A E.R E.n st (ssOf s) = if leaveB id (leave0 st id (ssOf s)) then splitP E.A E.R E.n id (leave0 st id (ssOf s)) else leave0 st id (ssOf s) := by
  have : ((ssOf s).tj.pof st).toNat = id := by rw [show (ssOf s).tj.pof st = (id : Int) from P.pof]; simp
  unfold leaveP
  rw [this]

set_option maxRecDepth 10000 in
set_option maxHeartbeats 4000000 in
theorem leave12 {E : En} (X : EH E) (RX : RH E) {s : Hs} {w : World} {id st : Nat} (hHI : HI E s w) (P : LvPre E st id s) : Calls Yba.prog 12 #[.pointer (some ⟨E.bs, 0, none⟩)] w fun e w' => e = .returned (.tuple #[]) ∧ ∃ off', (∀ p, (leaveP E.A E.R E.n st (ssOf s)).tj.np ≤ p → off' p = 0) ∧ (leaveP E.A E.R E.n st (ssOf s)).tj.np ≤ s.tj.np + E.n ∧ HI E { hsOf s (leaveP E.A E.R E.n st (ssOf s)) with off := off' } w' := by
  have HX : Hid (EH E) := X
  have HRX : Hid (RH E) := RX
  have HP : Hid (LvPre E st id s) := P
  have hn7 : E.n ≤ 7 := X.n7
  have hid : id < s.tj.np := by
    have h := P.pi.rg st
    have h3 : (ssOf s).tj.pof st = (id : Int) := P.pof
    rw [h3] at h
    have h4 : (id : Int) < ((ssOf s).tj.np : Int) := by omega
    exact Int.ofNat_lt.1 h4
  have hid' : (id : Int) < (s.tj.np : Int) := by omega
  have hnp : s.tj.np ≤ 1000 := by have := P.np; omega
  have hsn : st < E.n := P.hst
  have hsn' : (st : Int) < (E.n : Int) := by omega
  have hmem : s.mem id = st :: (List.range E.n).filter (fun u => decide (upd s.tj.pof st (-1) u = (id : Int))) := by
    have h : s.mem id = (List.range E.n).filter (fun u => decide (s.tj.pof u = (id : Int))) := P.pi.mem id hid
    rw [h]; exact mem_leave P.pi.lo P.hst P.pof
  obtain ⟨tl, htl⟩ : ∃ tl, (List.range E.n).filter (fun u => decide (upd s.tj.pof st (-1) u = (id : Int))) = tl := ⟨_, rfl⟩
  rw [htl] at hmem
  have htl7 : tl.length ≤ 7 := by
    have h1 := List.length_filter_le (fun u => decide (upd s.tj.pof st (-1) u = (id : Int))) (List.range E.n)
    rw [htl, List.length_range] at h1
    omega
  have HTL : Hid (s.mem id = st :: tl) := hmem
  have hml : (s.mem id).length = tl.length + 1 := by rw [hmem]; rfl
  have hst : s.start = (st : Int) := P.start
  have hwi : s.within = (id : Int) := P.within
  have HLQ : Hid (leaveP E.A E.R E.n st (ssOf s) = if leaveB id (leave0 st id (ssOf s)) then splitP E.A E.R E.n id (leave0 st id (ssOf s)) else leave0 st id (ssOf s)) := leave_eq P
  have HLB : Hid (leaveB id (leave0 st id (ssOf s)) = (decide (tl.length < 2) || decide ((tl.headD 0 : Int) ≤ s.loo id))) := by
    show (decide ((upd s.mem id (s.mem id).tail id).length < 2) || decide (((upd s.mem id (s.mem id).tail id).headD 0 : Int) ≤ s.loo id)) = _
    rw [upd_same, hmem]; rfl
  obtain ⟨own, V, H⟩ := hHI
  have HV0 : Hid (HV E own V s w) := H
  clear H X RX P htl hmem
  obtain ⟨b4, e4⟩ := HV0.out.fx .pof rfl
  have c4 : w.cell? ⟨E.bs, 4, none⟩ = some (.slice (some ⟨b4, 0, none⟩) E.n E.n) := by rw [← e4]; exact HV0.out.mi.cell rfl
  have d4 : w.cell? ⟨b4, st, none⟩ = some (.int .i64 (s.tj.pof st)) := (HV0.out.cPof e4 hsn).1
  have d4f : w.frozen? ⟨b4, st, none⟩ = false := (HV0.out.cPof e4 hsn).2
  have c6 : w.cell? ⟨E.bs, 6, none⟩ = some (.int .i64 (st : Int)) := by rw [← hst]; exact HV0.out.mi.cell rfl
  have HV1 : Hid (HV E own V { s with tj := { s.tj with pof := upd s.tj.pof st (-1) } } (w.setCell ⟨b4, st, none⟩ (.int .i64 (-1))).drew) := (HV0.out.setPof e4 st (-1)).drewN 1
  clear HV0
  go_enter Yba.func12, Yba.ntmps12
  go_wp2_with fail
  go_region
  clear c4 d4 d4f c6 e4
  generalize (w.setCell ⟨b4, st, none⟩ (.int .i64 (-1))).drew = w1 at *
  obtain ⟨gp, kp, ep, _, _, _, _⟩ := HV1.out.prtForm (show 0 < s.tj.np by omega)
  have c5 : w1.cell? ⟨E.bs, 5, none⟩ = some (.slice (some ⟨gp, 0, none⟩) s.tj.np kp) := by rw [← ep]; exact HV1.out.mi.cell rfl
  have c7 : w1.cell? ⟨E.bs, 7, none⟩ = some (.int .i64 (id : Int)) := by rw [← hwi]; exact HV1.out.mi.cell rfl
  go_wp2_with fail
  go_quiet (fail)
  have HV2 : Hid (HV E own V { s with tj := { s.tj with pof := upd s.tj.pof st (-1) } } (w1.drewN nq)) := HV1.out.drewN nq
  clear HV1 c5 c7
  generalize w1.drewN nq = w2 at *
  obtain ⟨gp', kp', ep', _, _, hcp, hfp⟩ := HV2.out.prtForm (show 0 < s.tj.np by omega)
  obtain ⟨rfl, rfl⟩ : gp = gp' ∧ kp = kp' := by rw [ep] at ep'; simp at ep'; exact ⟨ep'.1, ep'.2⟩
  obtain ⟨g2, k2, e2, hk2, _⟩ := HV2.out.memForm2 (id := id) hid (show 0 < (s.mem id).length by omega)
  have e2' : V (.mem id) = .slice (some ⟨g2, s.off id, none⟩) (tl.length + 1) k2 := by rw [← hml]; exact e2
  have hk2' : ((tl.length : Int) + 1) ≤ (k2 : Int) := by have : (s.mem id).length ≤ k2 := hk2; omega
  have dmf : w2.frozen? ⟨gp, id * 2, none⟩ = false := hfp _
  have HLV : Hid (hsOf s (leave0 st id (ssOf s)) = { s with tj := { s.tj with pof := upd s.tj.pof st (-1) }, mem := upd s.mem id (s.mem id).tail }) := rfl
  have HSP : Hid (SPre E (st + 1) id { s with tj := { s.tj with pof := upd s.tj.pof st (-1) }, mem := upd s.mem id (s.mem id).tail, off := upd s.off id (s.off id + 1) }) := by
    have P := HP.out
    refine ⟨leave0_PI P.pi P.hst id P.pof, hid, P.held, fun p hp => ?_, P.np, hn7⟩
    have hp' : s.tj.np ≤ p := hp
    show upd s.off id (s.off id + 1) p = 0
    rw [upd_other _ _ (by omega)]
    exact P.off p hp'
  have HYES : Hid (leaveB id (leave0 st id (ssOf s)) = true → ∀ w', HI E { hsOf { s with tj := { s.tj with pof := upd s.tj.pof st (-1) }, mem := upd s.mem id (s.mem id).tail, off := upd s.off id (s.off id + 1) } (splitP E.A E.R E.n id (ssOf { s with tj := { s.tj with pof := upd s.tj.pof st (-1) }, mem := upd s.mem id (s.mem id).tail, off := upd s.off id (s.off id + 1) })) with within := (id : Int), off := upd (upd s.off id (s.off id + 1)) id 0 } w' → ∃ off', (∀ p, (leaveP E.A E.R E.n st (ssOf s)).tj.np ≤ p → off' p = 0) ∧ (leaveP E.A E.R E.n st (ssOf s)).tj.np ≤ s.tj.np + E.n ∧ HI E { hsOf s (leaveP E.A E.R E.n st (ssOf s)) with off := off' } w') := fun hb w' hh => by
    rw [HLQ.out, if_pos hb]
    have hnb := HSP.out.npb
    refine ⟨upd (upd s.off id (s.off id + 1)) id 0, fun p hp => ?_, hnb.2, ?_⟩
    · have h1 : s.tj.np ≤ p := Nat.le_trans hnb.1 hp
      rw [upd_other _ _ (by omega), upd_other _ _ (by omega)]
      exact HP.out.off p h1
    · rw [← HP.out.within] at hh
      exact hh
  have c5' : w2.cell? ⟨E.bs, 5, none⟩ = some (.slice (some ⟨gp, 0, none⟩) s.tj.np kp) := by rw [← ep]; exact HV2.out.mi.cell rfl
  have c7' : w2.cell? ⟨E.bs, 7, none⟩ = some (iv id) := by rw [show (iv id : Value) = .int .i64 s.within by rw [hwi]]; exact HV2.out.mi.cell rfl
  have HGB : Hid (gp ≠ E.bs) := fun e => by
    have h1 := ((HV2.out.mi.row .prt _ rfl).1.lt (k := gp) (by rw [show (RowSpec.mk 41 2 (V .prt) s.tj.np _ 0).v = V .prt from rfl, ep]; rfl)).1
    have h2 := HV2.out.mi.bsB
    omega
  have HC5 : Hid (w2.cell? ⟨E.bs, 5, none⟩ = some (.slice (some ⟨gp, 0, none⟩) s.tj.np kp)) := c5'
  have HC7 : Hid (w2.cell? ⟨E.bs, 7, none⟩ = some (iv id)) := c7'
  have HDM : Hid (w2.cell? ⟨gp, id * 2, none⟩ = some (V (.mem id))) := (hcp id hid).1
  clear c5' c7'
  obtain rfl | hk22 : k2 = 1 ∨ 2 ≤ k2 := by have : (s.mem id).length ≤ k2 := hk2; omega
  · have htl0 : tl = [] := List.eq_nil_of_length_eq_zero (by have : (s.mem id).length ≤ 1 := hk2; omega)
    have HIN : Hid (∀ n, SplitIn E { s with tj := { s.tj with pof := upd s.tj.pof st (-1) }, mem := upd s.mem id (s.mem id).tail, off := upd s.off id (s.off id + 1) } id ((w2.setCell ⟨gp, id * 2, none⟩ (.slice (some ⟨g2, s.off id, none⟩) 0 0)).drewN n)) := fun n => by
      have hmm : upd s.mem id (s.mem id).tail id = [] := by rw [upd_same, HTL.out, htl0]; rfl
      obtain ⟨own1, V1, hV1⟩ := HV2.out.holdMem id hid HP.out.held ep
      refine ⟨gp, kp, some ⟨g2, s.off id, none⟩, 0, own1, V1, some (memRow V { s with tj := { s.tj with pof := upd s.tj.pof st (-1) } } id), ?_, ?_, ?_, ?_, fun _ _ _ _ _ _ h0 => ?_⟩
      · show (w2.setCell _ _).cell? _ = _
        rw [World.cell?_of_block (a := ⟨E.bs, 5, none⟩) (Below.heap_setCell _ _ _ _ (by show E.bs ≠ gp; exact fun e => HGB.out e.symm))]
        exact HC5.out
      · show (w2.setCell _ _).cell? _ = some (.slice _ (upd s.mem id (s.mem id).tail id).length _)
        rw [hmm]
        exact World.cell?_setCell_same _ _ _ HDM.out
      · obtain ⟨cur, hbl⟩ := (HV2.out.mi.row .prt _ rfl).1.block ep
        have hst := set_blk hbl (id * 2) (.slice (some ⟨g2, s.off id, none⟩) 0 0)
        show (w2.setCell _ _).frozen? _ = false
        simp [World.frozen?, hst]
      · have h := hV1.drewN n
        show HV E own1 V1 _ (((w2.setCell ⟨gp, id * 2, none⟩ (.slice (some ⟨g2, s.off id, none⟩) 0 0)).setCell ⟨gp, id * 2, none⟩ (.slice none 0 0)).drewN n)
        rw [set_set, upd_upd, upd_upd]
        exact h
      · have h0' : 0 < (upd s.mem id (s.mem id).tail id).length := h0
        rw [hmm] at h0'
        cases h0'
    have e2'' : V (.mem id) = .slice (some ⟨g2, s.off id, none⟩) 1 1 := by rw [e2', htl0]; rfl
    have dm : w2.cell? ⟨gp, id * 2, none⟩ = some (.slice (some ⟨g2, s.off id, none⟩) 1 1) := by rw [← e2'']; exact HDM.out
    have hlb : leaveB id (leave0 st id (ssOf s)) = true := by rw [HLB.out, htl0]; rfl
    have HLBt : Hid (leaveB id (leave0 st id (ssOf s)) = true) := hlb
    have dm1 : (w2.setCell ⟨gp, id * 2, none⟩ (.slice (some ⟨g2, s.off id, none⟩) 0 0)).cell? ⟨gp, id * 2, none⟩ = some (.slice (some ⟨g2, s.off id, none⟩) 0 0) := World.cell?_setCell_same _ _ _ dm
    have c7 : (w2.setCell ⟨gp, id * 2, none⟩ (.slice (some ⟨g2, s.off id, none⟩) 0 0)).cell? ⟨E.bs, 7, none⟩ = some (iv id) := by
      rw [World.cell?_of_block (a := ⟨E.bs, 7, none⟩) (Below.heap_setCell _ _ _ _ (by show E.bs ≠ gp; exact fun e => HGB.out e.symm))]
      exact HC7.out
    clear hlb HV2 hcp hfp ep' e2 hk2 e2' e2'' hk2' htl0 HTL hml htl7 ep
    go_upto_region 3 with fail
    clear dm dmf
    generalize w2.setCell ⟨gp, id * 2, none⟩ (.slice (some ⟨g2, s.off id, none⟩) 0 0) = w3 at *
    as_aux_lemma =>
      go_wp2_with fail
      go_quiet (fail)
      have HIN4 : Hid (SplitIn E { s with tj := { s.tj with pof := upd s.tj.pof st (-1) }, mem := upd s.mem id (s.mem id).tail, off := upd s.off id (s.off id + 1) } id (w3.drewN nq)) := HIN.out nq
      have c7'' : (w3.drewN nq).cell? ⟨E.bs, 7, none⟩ = some (iv id) := c7
      clear dm1 HIN c7
      generalize w3.drewN nq = w4 at *
      go_wp2_with fail
      refine (split10 HX.out HRX.out HIN4.out HSP.out).mono ?_
      rintro e w5 ⟨rfl, hh5⟩
      have HH5 : Hid (∃ off', (∀ p, (leaveP E.A E.R E.n st (ssOf s)).tj.np ≤ p → off' p = 0) ∧ (leaveP E.A E.R E.n st (ssOf s)).tj.np ≤ s.tj.np + E.n ∧ HI E { hsOf s (leaveP E.A E.R E.n st (ssOf s)) with off := off' } w5) := HYES.out HLBt.out _ hh5
      clear hh5 HIN4 c7''
      go_wp2_with fail
      go_end0
      exact ⟨rfl, HH5.out⟩
  have hk22' : (2 : Int) ≤ (k2 : Int) := by omega
  have dm : w2.cell? ⟨gp, id * 2, none⟩ = some (.slice (some ⟨g2, s.off id, none⟩) (tl.length + 1) k2) := by rw [(hcp id hid).1]; exact congrArg some e2'
  have HV3 : Hid (HV E own (updV V (.mem id) (.slice (some ⟨g2, s.off id + 1, none⟩) tl.length (k2 - 1))) { s with tj := { s.tj with pof := upd s.tj.pof st (-1) }, mem := upd s.mem id (s.mem id).tail, off := upd s.off id (s.off id + 1) } (w2.setCell ⟨gp, id * 2, none⟩ (.slice (some ⟨g2, s.off id + 1, none⟩) tl.length (k2 - 1)))) := by
    have h := HV2.out.tailMem2 id hid ep e2 (show 0 < (s.mem id).length by omega)
    rw [show (s.mem id).length - 1 = tl.length by omega] at h
    exact h
  clear HV2 hcp hfp ep' e2 hk2
  go_upto_region 3 with fail
  clear dm dmf
  generalize w2.setCell ⟨gp, id * 2, none⟩ (.slice (some ⟨g2, s.off id + 1, none⟩) tl.length (k2 - 1)) = w3 at *
  have ep3 : updV V (.mem id) (.slice (some ⟨g2, s.off id + 1, none⟩) tl.length (k2 - 1)) .prt = .slice (some ⟨gp, 0, none⟩) s.tj.np kp := by rw [updV_other _ _ (by simp)]; exact ep
  have dm : w3.cell? ⟨gp, id * 2, none⟩ = some (.slice (some ⟨g2, s.off id + 1, none⟩) tl.length (k2 - 1)) ∧ w3.cell? ⟨gp, id * 2 + 1, none⟩ = some (.int .i64 (s.loo id)) := by
    obtain ⟨gq, kq, eq, _, _, hcq, _⟩ := HV3.out.prtForm (show 0 < s.tj.np by omega)
    have eq2 := ep3.symm.trans eq
    cases eq2
    have h := hcq id hid
    rw [updV_same] at h
    exact h
  obtain ⟨dm1, dm2⟩ := dm
  have HHD : Hid (0 < tl.length → w3.cell? ⟨g2, s.off id + 1, none⟩ = some (iv (tl.headD 0))) := fun h0 => by
    have hl2 : (upd s.mem id (s.mem id).tail id) = tl := by rw [upd_same, HTL.out]; rfl
    obtain ⟨g3, k3, e3, _, hc3⟩ := HV3.out.memForm2 (id := id) hid (show 0 < (upd s.mem id (s.mem id).tail id).length by rw [hl2]; exact h0)
    have e3' : updV V (.mem id) (.slice (some ⟨g2, s.off id + 1, none⟩) tl.length (k2 - 1)) (.mem id) = .slice (some ⟨g3, upd s.off id (s.off id + 1) id, none⟩) (upd s.mem id (s.mem id).tail id).length k3 := e3
    rw [updV_same, upd_same] at e3'
    simp at e3'
    have h := hc3 0 (show 0 < (upd s.mem id (s.mem id).tail id).length by rw [hl2]; exact h0)
    have h' : w3.cell? ⟨g3, upd s.off id (s.off id + 1) id + 0, none⟩ = some (iv ((upd s.mem id (s.mem id).tail id).getD 0 0)) := h
    rw [upd_same, hl2, ← e3'.1, Nat.add_zero] at h'
    rw [h']
    cases tl <;> rfl
  have HH3 : Hid (HI E { s with tj := { s.tj with pof := upd s.tj.pof st (-1) }, mem := upd s.mem id (s.mem id).tail, off := upd s.off id (s.off id + 1) } w3) := ⟨_, _, HV3.out⟩
  clear HV3 ep3 ep e2'
  have HNO : Hid (leaveB id (leave0 st id (ssOf s)) = false → ∀ n, ∃ off', (∀ p, (leaveP E.A E.R E.n st (ssOf s)).tj.np ≤ p → off' p = 0) ∧ (leaveP E.A E.R E.n st (ssOf s)).tj.np ≤ s.tj.np + E.n ∧ HI E { hsOf s (leaveP E.A E.R E.n st (ssOf s)) with off := off' } (w3.drewN n)) := fun hb n => by
    rw [HLQ.out, if_neg (by rw [hb]; simp)]
    obtain ⟨a, b, h⟩ := HH3.out
    refine ⟨upd s.off id (s.off id + 1), fun p hp => ?_, Nat.le_add_right _ _, a, b, h.drewN n⟩
    have h1 : s.tj.np ≤ p := hp
    rw [upd_other _ _ (by omega)]
    exact HP.out.off p h1
  generalize leaveB id (leave0 st id (ssOf s)) = lb at *
  by_cases hl2 : tl.length < 2
  · have hl2' : (tl.length : Int) < 2 := by omega
    obtain rfl : lb = true := by rw [HLB.out, decide_eq_true hl2]; rfl
    clear hl2
    as_aux_lemma =>
      go_wp2_with fail
      go_quiet (fail)
      have HH4 : Hid (HI E { s with tj := { s.tj with pof := upd s.tj.pof st (-1) }, mem := upd s.mem id (s.mem id).tail, off := upd s.off id (s.off id + 1) } (w3.drewN nq)) := by obtain ⟨a, b, h⟩ := HH3.out; exact ⟨a, b, h.drewN nq⟩
      clear dm1 dm2 HHD HNO HH3
      generalize w3.drewN nq = w4 at *
      have c7 : w4.cell? ⟨E.bs, 7, none⟩ = some (iv id) := by obtain ⟨a, b, h⟩ := HH4.out; rw [show (iv id : Value) = .int .i64 s.within by rw [hwi]]; exact h.mi.cell rfl
      go_wp2_with fail
      refine (split10 HX.out HRX.out (HH4.out.splitIn hid HP.out.held) HSP.out).mono ?_
      rintro e w5 ⟨rfl, hh5⟩
      have HH5 : Hid (∃ off', (∀ p, (leaveP E.A E.R E.n st (ssOf s)).tj.np ≤ p → off' p = 0) ∧ (leaveP E.A E.R E.n st (ssOf s)).tj.np ≤ s.tj.np + E.n ∧ HI E { hsOf s (leaveP E.A E.R E.n st (ssOf s)) with off := off' } w5) := HYES.out (by first | rfl | trivial) _ hh5
      clear hh5 HH4 c7
      go_wp2_with fail
      go_end0
      exact ⟨rfl, HH5.out⟩
  · have hl2' : decide ((tl.length : Int) < 2) = false := decide_eq_false (by omega)
    have hl3 : ((0 : Nat) : Int) < (tl.length : Int) := by omega
    have dh := HHD.out (by omega)
    rw [decide_eq_false hl2] at HLB
    generalize tl.headD 0 = y at *
    clear hl2
    by_cases hly : (y : Int) ≤ s.loo id
    · obtain rfl : lb = true := by rw [HLB.out, decide_eq_true hly]; rfl
      as_aux_lemma =>
        go_wp2_with fail
        go_quiet (fail)
        clear dh
        have HH4 : Hid (HI E { s with tj := { s.tj with pof := upd s.tj.pof st (-1) }, mem := upd s.mem id (s.mem id).tail, off := upd s.off id (s.off id + 1) } (w3.drewN nq)) := by obtain ⟨a, b, h⟩ := HH3.out; exact ⟨a, b, h.drewN nq⟩
        clear dm1 dm2 HHD HNO HH3
        generalize w3.drewN nq = w4 at *
        have c7 : w4.cell? ⟨E.bs, 7, none⟩ = some (iv id) := by obtain ⟨a, b, h⟩ := HH4.out; rw [show (iv id : Value) = .int .i64 s.within by rw [hwi]]; exact h.mi.cell rfl
        go_wp2_with fail
        refine (split10 HX.out HRX.out (HH4.out.splitIn hid HP.out.held) HSP.out).mono ?_
        rintro e w5 ⟨rfl, hh5⟩
        have HH5 : Hid (∃ off', (∀ p, (leaveP E.A E.R E.n st (ssOf s)).tj.np ≤ p → off' p = 0) ∧ (leaveP E.A E.R E.n st (ssOf s)).tj.np ≤ s.tj.np + E.n ∧ HI E { hsOf s (leaveP E.A E.R E.n st (ssOf s)) with off := off' } w5) := HYES.out (by first | rfl | trivial) _ hh5
        clear hh5 HH4 c7
        go_wp2_with fail
        go_end0
        exact ⟨rfl, HH5.out⟩
    · obtain rfl : lb = false := by rw [HLB.out, decide_eq_false hly]; rfl
      have hly' : decide ((y : Int) ≤ s.loo id) = false := decide_eq_false hly
      as_aux_lemma =>
        go_wp2_with fail
        go_quiet (fail)
        go_wp2_with fail
        go_end0
        exact ⟨rfl, HNO.out (by first | rfl | trivial) _⟩
end Go.Proofs.Ybulkcyk
