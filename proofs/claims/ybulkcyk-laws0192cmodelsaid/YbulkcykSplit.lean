/-
  (*search).split (function 10), walked.
-/
import Derived.Test.YbulkcykSplitPre
import Derived.Test.YbulkcykWalk
import Derived.Test.YbulkcykOrder
namespace Go.Proofs.Ybulkcyk
open Go.RowKit
set_option linter.unusedSimpArgs false

set_option maxRecDepth 10000 in
set_option maxHeartbeats 16000000 in
theorem split10 {E : En} (X : EH E) (RX : RH E) {s : Hs} {w : World} {id st : Nat} (hIN : SplitIn E s id w) (P : SPre E st id s) : Calls Yba.prog 10 #[.pointer (some ⟨E.bs, 0, none⟩), iv id] w fun e w' => e = .returned (.tuple #[]) ∧ HI E { hsOf s (splitP E.A E.R E.n id (ssOf s)) with within := (id : Int), off := upd s.off id 0 } w' := by
  have HX : Hid (EH E) := X
  have HRX : Hid (RH E) := RX
  have HP : Hid (SPre E st id s) := P
  have hn7 : E.n ≤ 7 := X.n7
  have hid : id < s.tj.np := P.hid
  have hid' : (id : Int) < (s.tj.np : Int) := by omega
  have hnp : s.tj.np ≤ 1000 := by have := P.np; omega
  have hml : (s.mem id).length ≤ 7 := by have := P.len; omega
  obtain ⟨i0, hi, hz0, hz1, hz2⟩ := info_parts Yba.info3
  obtain ⟨gp, kp, p4, k4, own1, V1, r0, c5, dm, dmf, hV1, hSQ⟩ := hIN
  have HSQ4 : Hid (∀ own V s' w', HV E own V s' w' → s'.held = r0 → SlR w' p4 (s.mem id)) := hSQ
  have HV1 : Hid (HV E own1 V1 { s with mem := upd s.mem id [], off := upd s.off id 0, held := r0 } (w.setCell ⟨gp, id * 2, none⟩ (.slice none 0 0))) := hV1
  clear X RX P hV1 hSQ
  go_enter Yba.func10, Yba.ntmps10
  go_upto_region 2 with fail
  clear c5 dm dmf
  generalize w.setCell ⟨gp, id * 2, none⟩ (.slice none 0 0) = w1 at *
  obtain ⟨gq, kq, eq, _, _, _, _⟩ := HV1.out.prtForm (show 0 < s.tj.np by omega)
  have c5 : w1.cell? ⟨E.bs, 5, none⟩ = some (.slice (some ⟨gq, 0, none⟩) s.tj.np kq) := by rw [← eq]; exact HV1.out.mi.cell rfl
  have c7 : w1.cell? ⟨E.bs, 7, none⟩ = some (.int .i64 s.within) := HV1.out.mi.cell rfl
  have f7 : w1.frozen? ⟨E.bs, 7, none⟩ = false := HV1.out.mi.frozen 7
  have c17 : w1.cell? ⟨E.bs, 17, none⟩ = some (iv s.tj.rch) := HV1.out.mi.cell rfl
  have f17 : w1.frozen? ⟨E.bs, 17, none⟩ = false := HV1.out.mi.frozen 17
  have HH : Hid (HI E { s with mem := upd s.mem id [], off := upd s.off id 0, held := r0, within := (id : Int), tj := { s.tj with rch := 0 } } ((w1.setCell ⟨E.bs, 7, none⟩ (iv id)).setCell ⟨E.bs, 17, none⟩ (.int .i64 0))) := ⟨_, _, (HV1.out.setWithin (id : Int)).setRch 0⟩
  clear HV1 eq
  go_upto_region 4 with fail
  clear c5 c7 f7 c17 f17
  generalize (w1.setCell ⟨E.bs, 7, none⟩ (iv id)).setCell ⟨E.bs, 17, none⟩ (.int .i64 0) = w2 at *
  have HRR : Hid (∀ k, (Rr E.A E.n id s k).1.pof = (Tz E.A E.n id s).pof ∧ (Rr E.A E.n id s k).1.np = (Tz E.A E.n id s).np ∧ s.tj.np ≤ (Tz E.A E.n id s).np ∧ (Tz E.A E.n id s).np ≤ 1000 ∧ (∀ x ∈ s.mem id, (Tz E.A E.n id s).pof x = -1 ∨ ((s.tj.np : Int) ≤ (Tz E.A E.n id s).pof x ∧ (Tz E.A E.n id s).pof x < (Tz E.A E.n id s).np)) ∧ (∀ p, s.tj.np ≤ p → ((Rr E.A E.n id s k).2 p).length ≤ 7 ∧ ∀ u ∈ (Rr E.A E.n id s k).2 p, u < E.n)) := fun k => HP.out.rr k
  have HSQ : Hid (splitP E.A E.R E.n id (ssOf s) = { ssOf s with tj := (Rz E.A E.n id s).1, mem := (Rz E.A E.n id s).2, loo := loosL E.A E.R (Rz E.A E.n id s).1.pof (Rz E.A E.n id s).2 s.tj.np s.loo ((Rz E.A E.n id s).1.np - s.tj.np) }) := rfl
  have HRZ : Hid (Rr E.A E.n id s (s.mem id).length = Rz E.A E.n id s) := Rr_all _ _ _ _
  have HR00 : Hid (Rr E.A E.n id s 0 = (Tz E.A E.n id s, upd s.mem id [])) := rfl
  go_upto_block 0 with fail
  go_cut [] (fun wx => HI E { s with mem := upd s.mem id [], off := upd s.off id 0, held := r0, within := (id : Int), tj := Tz E.A E.n id s } wx)
  case first =>
    as_aux_lemma =>
      have HTA : Hid (Tk E.A E.n id s (s.mem id).length = Tz E.A E.n id s) := Tk_all _ _ _ _
      have HT0 : Hid (Tk E.A E.n id s 0 = { s.tj with rch := 0 }) := rfl
      go_wp2_with fail
      go_loopg [41] (s.mem id).length (fun gn kv wr => ∃ k : Nat, gn = (s.mem id).length - k ∧ k ≤ (s.mem id).length ∧ kv = iv k ∧ HI E { s with mem := upd s.mem id [], off := upd s.off id 0, held := r0, within := (id : Int), tj := Tk E.A E.n id s k } wr)
      case atStart => exact ⟨0, rfl, Nat.zero_le _, rfl, by rw [HT0.out]; exact HH.out⟩
      case round =>
        clear HH HT0
        obtain ⟨k, hgk, hk, rfl, own3, V3, hV3⟩ := hrel
        have HGK : Hid (gk = (s.mem id).length - k) := hgk
        have HSUC : Hid (k < (s.mem id).length → Tk E.A E.n id s (k + 1) = spl1S E.A E.n id (Tk E.A E.n id s k) ((s.mem id).getD k 0)) := fun h => Tk_succ _ _ _ _ _ h
        have HALL : Hid (k = (s.mem id).length → Tz E.A E.n id s = Tk E.A E.n id s k) := fun h => by rw [h]; exact HTA.out.symm
        have HWP : Hid (∀ x, x ∈ s.mem id → (Tk E.A E.n id s k).idx x = 0 → ∀ s2 : Hs, s2.tj = Tk E.A E.n id s k → s2.within = (id : Int) → s2.mem = upd s.mem id [] → s2.loo = s.loo → WPre E (fun u => s.tj.pof u = (id : Int)) id s.tj.np s.tj.pof (s.tj.np + E.n) E.n x s2) := fun x => HP.out.wpre k x
        generalize Tk E.A E.n id s k = t at *
        have HV3 : Hid (HV E own3 V3 { s with mem := upd s.mem id [], off := upd s.off id 0, held := r0, within := (id : Int), tj := t } wr) := hV3
        clear hgk hV3
        by_cases hlt : k < (s.mem id).length
        · have hlt' : (k : Int) < ((s.mem id).length : Int) := by omega
          obtain ⟨gA, oA, epA, hcell⟩ := HSQ4.out _ _ _ _ HV3.out rfl (by omega)
          have akk := hcell k hlt
          have HXm : Hid ((s.mem id).getD k 0 ∈ s.mem id) := by
            show (s.mem id).getD k 0 ∈ s.mem id
            rw [List.getD_eq_getElem?_getD, List.getElem?_eq_getElem hlt]; exact List.getElem_mem _
          have HSU : Hid (Tk E.A E.n id s (k + 1) = spl1S E.A E.n id t ((s.mem id).getD k 0)) := HSUC.out hlt
          clear hcell HSUC HALL HSQ4
          generalize hxx : (s.mem id).getD k 0 = x at *
          clear hxx
          subst epA
          have hxn : x < E.n := (HP.out.mem x HXm.out).2
          have hxn' : (x : Int) < (E.n : Int) := by omega
          obtain ⟨b13, e13⟩ := HV3.out.fx .idx rfl
          have c13 : wr.cell? ⟨E.bs, 13, none⟩ = some (.slice (some ⟨b13, 0, none⟩) E.n E.n) := by rw [← e13]; exact HV3.out.mi.cell rfl
          have d13 : wr.cell? ⟨b13, x, none⟩ = some (.int .i64 (t.idx x)) := (HV3.out.cIdx e13 hxn).1
          have HS1 : Hid (spl1S E.A E.n id t x = if t.idx x = 0 then walkP E.A id E.n x t else t) := rfl
          by_cases hi0 : t.idx x = 0
          · rw [if_pos hi0] at HS1
            have d13' : wr.cell? ⟨b13, x, none⟩ = some (.int .i64 0) := by rw [d13, hi0]; rfl
            have HWX : Hid (WPre E (fun u => s.tj.pof u = (id : Int)) id s.tj.np s.tj.pof (s.tj.np + E.n) E.n x { s with mem := upd s.mem id [], off := upd s.off id 0, held := r0, within := (id : Int), tj := t }) := HWP.out x HXm.out hi0 _ rfl rfl rfl rfl
            clear d13 HWP hi0
            as_aux_lemma =>
              go_wp2_with fail
              refine (walk13 HX.out HP.out.we E.n x { s with mem := upd s.mem id [], off := upd s.off id 0, held := r0, within := (id : Int), tj := t } wr ⟨_, _, HV3.out⟩ HWX.out).mono ?_
              rintro e w5 ⟨rfl, hh5⟩
              have HNX : Hid (HI E { s with mem := upd s.mem id [], off := upd s.off id 0, held := r0, within := (id : Int), tj := Tk E.A E.n id s (k + 1) } w5) := by show HI E { s with mem := upd s.mem id [], off := upd s.off id 0, held := r0, within := (id : Int), tj := Tk E.A E.n id s (k + 1) } w5; rw [HSU.out, HS1.out]; exact hh5
              clear hh5 HV3 c13 d13' HWX
              go_wp2_with fail
              go_roundg ((s.mem id).length - (k + 1))
              case measure => rw [HGK.out]; omega
              case rel => exact ⟨k + 1, rfl, by omega, by go_num, HNX.out⟩
          · rw [if_neg hi0] at HS1
            have hi0' : ((t.idx x : Int) == 0) = false := by rw [beq_eq_false_iff_ne]; omega
            have HNX : Hid (HI E { s with mem := upd s.mem id [], off := upd s.off id 0, held := r0, within := (id : Int), tj := Tk E.A E.n id s (k + 1) } wr) := by show HI E { s with mem := upd s.mem id [], off := upd s.off id 0, held := r0, within := (id : Int), tj := Tk E.A E.n id s (k + 1) } wr; rw [HSU.out, HS1.out]; exact ⟨_, _, HV3.out⟩
            clear HV3 hi0
            as_aux_lemma =>
              go_wp2_with fail
              go_roundg ((s.mem id).length - (k + 1))
              case measure => rw [HGK.out]; omega
              case rel => exact ⟨k + 1, rfl, by omega, by go_num, HNX.out⟩
        · obtain rfl : k = (s.mem id).length := by omega
          as_aux_lemma =>
            go_wp2_with fail
            go_meet
            rw [HALL.out (by first | rfl | trivial)]
            exact ⟨_, _, HV3.out⟩
  case rest =>
    have HHc : Hid (HI E { s with mem := upd s.mem id [], off := upd s.off id 0, held := r0, within := (id : Int), tj := Tz E.A E.n id s } wc) := hcut
    clear HH hcut
    go_upto_block 2 with fail
    go_cut [] (fun wx => HI E { s with mem := (Rz E.A E.n id s).2, off := upd s.off id 0, held := r0, within := (id : Int), tj := (Rz E.A E.n id s).1 } wx)
    case first =>
      go_wp2_with fail
      go_loopg [59] (s.mem id).length (fun gn kv wr => ∃ k : Nat, gn = (s.mem id).length - k ∧ k ≤ (s.mem id).length ∧ kv = iv k ∧ HI E { s with mem := (Rr E.A E.n id s k).2, off := upd s.off id 0, held := r0, within := (id : Int), tj := (Rr E.A E.n id s k).1 } wr)
      case atStart => exact ⟨0, rfl, Nat.zero_le _, rfl, by rw [HR00.out]; exact HHc.out⟩
      case round =>
        clear HHc HR00
        obtain ⟨k, hgk, hk, rfl, own3, V3, hV3⟩ := hrel
        have HGK : Hid (gk = (s.mem id).length - k) := hgk
        have HSUC : Hid (k < (s.mem id).length → Rr E.A E.n id s (k + 1) = spl2S (Rr E.A E.n id s k) ((s.mem id).getD k 0)) := fun h => Rr_succ _ _ _ _ _ h
        have HALL : Hid (k = (s.mem id).length → Rz E.A E.n id s = Rr E.A E.n id s k) := fun h => by rw [h]; exact HRZ.out.symm
        have HRK := HRR.out k
        generalize Rr E.A E.n id s k = r at *
        obtain ⟨r1, r2⟩ := r
        obtain ⟨hq1, hq2, hq3, hq4, hq5, hq6⟩ := HRK
        have HQ5 : Hid (∀ x ∈ s.mem id, r1.pof x = -1 ∨ ((s.tj.np : Int) ≤ r1.pof x ∧ r1.pof x < r1.np)) := by show ∀ x ∈ s.mem id, r1.pof x = -1 ∨ ((s.tj.np : Int) ≤ r1.pof x ∧ r1.pof x < r1.np); intro x hx; have := hq5 x hx; rw [← hq1, ← hq2] at this; exact this
        have HQ6 : Hid (∀ p, s.tj.np ≤ p → (r2 p).length ≤ 7) := fun p hp => (hq6 p hp).1
        have hnp1 : r1.np ≤ 1000 := by have : r1.np = (Tz E.A E.n id s).np := hq2; omega
        have HV3 : Hid (HV E own3 V3 { s with mem := r2, off := upd s.off id 0, held := r0, within := (id : Int), tj := r1 } wr) := hV3
        clear hgk hV3 hq1 hq2 hq3 hq4 hq5 hq6
        by_cases hlt : k < (s.mem id).length
        · have hlt' : (k : Int) < ((s.mem id).length : Int) := by omega
          obtain ⟨gA, oA, epA, hcell⟩ := HSQ4.out _ _ _ _ HV3.out rfl (by omega)
          have akk := hcell k hlt
          have HXm : Hid ((s.mem id).getD k 0 ∈ s.mem id) := by
            show (s.mem id).getD k 0 ∈ s.mem id
            rw [List.getD_eq_getElem?_getD, List.getElem?_eq_getElem hlt]; exact List.getElem_mem _
          have HSU : Hid (Rr E.A E.n id s (k + 1) = spl2S (r1, r2) ((s.mem id).getD k 0)) := HSUC.out hlt
          clear hcell HSUC HALL HSQ4
          generalize hxx : (s.mem id).getD k 0 = x at *
          clear hxx
          subst epA
          have hxn : x < E.n := (HP.out.mem x HXm.out).2
          have hxn' : (x : Int) < (E.n : Int) := by omega
          have HQX := HQ5.out x HXm.out
          obtain ⟨b13, e13⟩ := HV3.out.fx .idx rfl
          have c13 : wr.cell? ⟨E.bs, 13, none⟩ = some (.slice (some ⟨b13, 0, none⟩) E.n E.n) := by rw [← e13]; exact HV3.out.mi.cell rfl
          have d13 : wr.cell? ⟨b13, x, none⟩ = some (.int .i64 (r1.idx x)) := (HV3.out.cIdx e13 hxn).1
          have d13f : wr.frozen? ⟨b13, x, none⟩ = false := (HV3.out.cIdx e13 hxn).2
          have HV4 : Hid (HV E own3 V3 { s with mem := r2, off := upd s.off id 0, held := r0, within := (id : Int), tj := { r1 with idx := upd r1.idx x 0 } } (wr.setCell ⟨b13, x, none⟩ (.int .i64 0))) := HV3.out.setIdx e13 x 0
          clear HV3
          go_upto_region 14 with fail
          clear akk c13 d13 d13f e13
          generalize wr.setCell ⟨b13, x, none⟩ (.int .i64 0) = w4 at *
          have HS2 : Hid (spl2S (r1, r2) x = ({ r1 with idx := upd r1.idx x 0 }, if 0 ≤ r1.pof x then upd r2 (r1.pof x).toNat (r2 (r1.pof x).toNat ++ [x]) else r2)) := rfl
          obtain ⟨b4, e4⟩ := HV4.out.fx .pof rfl
          have c4 : w4.cell? ⟨E.bs, 4, none⟩ = some (.slice (some ⟨b4, 0, none⟩) E.n E.n) := by rw [← e4]; exact HV4.out.mi.cell rfl
          have d4 : w4.cell? ⟨b4, x, none⟩ = some (.int .i64 (r1.pof x)) := (HV4.out.cPof e4 hxn).1
          by_cases hpx : 0 ≤ r1.pof x
          · rw [if_pos hpx] at HS2
            obtain ⟨p, hp⟩ : ∃ p : Nat, r1.pof x = (p : Int) := ⟨(r1.pof x).toNat, by omega⟩
            have hpn0 : s.tj.np ≤ p := by omega
            have hpn : p < r1.np := by omega
            have hpn' : (p : Int) < (r1.np : Int) := by omega
            have HNX : Hid (Rr E.A E.n id s (k + 1) = ({ r1 with idx := upd r1.idx x 0 }, upd r2 p (r2 p ++ [x]))) := by show Rr E.A E.n id s (k + 1) = _; rw [HSU.out, HS2.out, hp]; rfl
            have d4' : w4.cell? ⟨b4, x, none⟩ = some (iv p) := by rw [d4, hp]
            have hoff : upd s.off id 0 p = 0 := by rw [upd_other _ _ (by omega)]; exact HP.out.off p hpn0
            have HOFF : Hid (upd s.off id 0 p = 0) := hoff
            have hlx : (r2 p).length ≤ 7 := HQ6.out p hpn0
            clear d4 hpx HS2 HSU HQX hp hoff
            obtain ⟨g5, k5, e5, _, _, hc5, hf5⟩ := HV4.out.prtForm (show 0 < r1.np by omega)
            obtain ⟨px, cx, ex, _, _⟩ := HV4.out.memForm (id := p) hpn
            have c5 : w4.cell? ⟨E.bs, 5, none⟩ = some (.slice (some ⟨g5, 0, none⟩) r1.np k5) := by rw [← e5]; exact HV4.out.mi.cell rfl
            have d5 : w4.cell? ⟨g5, p * 2, none⟩ = some (.slice px (r2 p).length cx) := by rw [(hc5 p hpn).1, ex]
            clear hc5 hf5
            have hcy2 : (w4.alloc (.cells #[iv x] 3 (0, 0))).ownsRow E.B 3 1 (.slice px (r2 p).length cx) (r2 p).length ((r2 p).map iv) := by
              have h := ((HV4.out.mi.row (.mem p) _ (RwOf_mem (s := { s with mem := r2, off := upd s.off id 0, held := r0, within := (id : Int), tj := { r1 with idx := upd r1.idx x 0 } }) hpn)).1.owns HOFF.out).alloc (.cells #[iv x] 3 (0, 0))
              rw [show (memRow V3 { s with mem := r2, off := upd s.off id 0, held := r0, within := (id : Int), tj := { r1 with idx := upd r1.idx x 0 } } p).v = .slice px (r2 p).length cx from ex] at h
              exact h
            have hbs5 := HV4.out.mi.sz
            go_upto_region 16 with fail
            clear d4' c4
            obtain ⟨T, hTd⟩ : ∃ T : World → Prop, T = fun w' => w'.cell? ⟨E.bs, 5, none⟩ = some (.slice (some ⟨g5, 0, none⟩) r1.np k5) ∧ w'.cell? ⟨g5, p * 2, none⟩ = some (.slice px (r2 p).length cx) := ⟨_, rfl⟩
            have hTu : ∀ w', T w' → w'.cell? ⟨E.bs, 5, none⟩ = some (.slice (some ⟨g5, 0, none⟩) r1.np k5) ∧ w'.cell? ⟨g5, p * 2, none⟩ = some (.slice px (r2 p).length cx) := fun w' h => by rw [hTd] at h; exact h
            have hTm : ∀ w', w'.cell? ⟨E.bs, 5, none⟩ = some (.slice (some ⟨g5, 0, none⟩) r1.np k5) ∧ w'.cell? ⟨g5, p * 2, none⟩ = some (.slice px (r2 p).length cx) → T w' := fun w' h => by rw [hTd]; exact h
            have hT0 : T w4.drew := hTm _ ⟨c5, d5⟩
            clear hTd
            refine AnyBut.start (last := 18) (T := T) (by decide +kernel) ?_
            refine AnyBut.take (i := 0) (v := ?av0) rfl (by decide +kernel) (by decide +kernel) (by decide +kernel) (by decide +kernel) (by decide) (fun _ _ _ h => h) (Or.inl ⟨by rfl, ?ah0⟩) (by assumption) ?ar0
            case ah0 => (intro w8 hT8; replace hT8 := hTu w8 hT8; go_simp; try with_reducible rfl)
            case ar0 =>
            try simp only [Act.put, List.setIfInBounds_toArray, List.set_cons_zero, List.set_cons_succ]
            refine AnyBut.take (i := 1) (v := ?av1) rfl (by decide +kernel) (by decide +kernel) (by decide +kernel) (by decide +kernel) (by decide) (fun _ _ _ h => h) (Or.inl ⟨by rfl, ?ah1⟩) (by assumption) ?ar1
            case ah1 => (intro w8 hT8; replace hT8 := hTu w8 hT8; go_simp; try with_reducible rfl)
            case ar1 =>
            try simp only [Act.put, List.setIfInBounds_toArray, List.set_cons_zero, List.set_cons_succ]
            refine AnyBut.take (i := 2) (v := ?av2) rfl (by decide +kernel) (by decide +kernel) (by decide +kernel) (by decide +kernel) (by decide) (fun _ _ _ h => h) (Or.inl ⟨by rfl, ?ah2⟩) (by assumption) ?ar2
            case ah2 => (intro w8 hT8; replace hT8 := hTu w8 hT8; go_simp; try with_reducible rfl)
            case ar2 =>
            try simp only [Act.put, List.setIfInBounds_toArray, List.set_cons_zero, List.set_cons_succ]
            refine AnyBut.take (i := 3) (v := ?av3) rfl (by decide +kernel) (by decide +kernel) (by decide +kernel) (by decide +kernel) (by decide) (fun _ _ _ h => h) (Or.inl ⟨by rfl, ?ah3⟩) (by assumption) ?ar3
            case ah3 => (intro w8 hT8; replace hT8 := hTu w8 hT8; go_simp; try with_reducible rfl)
            case ar3 =>
            try simp only [Act.put, List.setIfInBounds_toArray, List.set_cons_zero, List.set_cons_succ]
            refine AnyBut.take (i := 4) (v := ?av4) rfl (by decide +kernel) (by decide +kernel) (by decide +kernel) (by decide +kernel) (by decide) (fun _ _ _ h => h) (Or.inl ⟨by rfl, ?ah4⟩) (by assumption) ?ar4
            case ah4 => (intro w8 hT8; replace hT8 := hTu w8 hT8; go_simp; try with_reducible rfl)
            case ar4 =>
            try simp only [Act.put, List.setIfInBounds_toArray, List.set_cons_zero, List.set_cons_succ]
            refine AnyBut.take (i := 5) (v := ?av5) rfl (by decide +kernel) (by decide +kernel) (by decide +kernel) (by decide +kernel) (by decide) (fun _ _ _ h => h) (Or.inl ⟨by rfl, ?ah5⟩) (by assumption) ?ar5
            case ah5 => (intro w8 hT8; replace hT8 := hTu w8 hT8; go_simp; try with_reducible rfl)
            case ar5 =>
            try simp only [Act.put, List.setIfInBounds_toArray, List.set_cons_zero, List.set_cons_succ]
            refine AnyBut.take (i := 6) (v := ?av6) rfl (by decide +kernel) (by decide +kernel) (by decide +kernel) (by decide +kernel) (by decide) (fun _ _ _ h => h) (Or.inl ⟨by rfl, ?ah6⟩) (by assumption) ?ar6
            case ah6 => (intro w8 hT8; replace hT8 := hTu w8 hT8; go_simp; try with_reducible rfl)
            case ar6 =>
            try simp only [Act.put, List.setIfInBounds_toArray, List.set_cons_zero, List.set_cons_succ]
            refine AnyBut.take (i := 7) (v := ?av7) rfl (by decide +kernel) (by decide +kernel) (by decide +kernel) (by decide +kernel) (by decide) (fun _ _ _ h => h) (Or.inl ⟨by rfl, ?ah7⟩) (by assumption) ?ar7
            case ah7 => (intro w8 hT8; replace hT8 := hTu w8 hT8; go_simp; try with_reducible rfl)
            case ar7 =>
            try simp only [Act.put, List.setIfInBounds_toArray, List.set_cons_zero, List.set_cons_succ]
            refine AnyBut.take (i := 8) (v := ?av8) rfl (by decide +kernel) (by decide +kernel) (by decide +kernel) (by decide +kernel) (by decide) (fun _ _ _ h => h) (Or.inl ⟨by rfl, ?ah8⟩) (by assumption) ?ar8
            case ah8 => (intro w8 hT8; replace hT8 := hTu w8 hT8; go_simp; try with_reducible rfl)
            case ar8 =>
            try simp only [Act.put, List.setIfInBounds_toArray, List.set_cons_zero, List.set_cons_succ]
            refine AnyBut.take (i := 9) (v := ?av9) rfl (by decide +kernel) (by decide +kernel) (by decide +kernel) (by decide +kernel) (by decide) (fun _ _ _ h => h) (Or.inl ⟨by rfl, ?ah9⟩) (by assumption) ?ar9
            case ah9 => (intro w8 hT8; replace hT8 := hTu w8 hT8; go_simp; try with_reducible rfl)
            case ar9 =>
            try simp only [Act.put, List.setIfInBounds_toArray, List.set_cons_zero, List.set_cons_succ]
            refine AnyBut.take (i := 10) (v := ?av10) rfl (by decide +kernel) (by decide +kernel) (by decide +kernel) (by decide +kernel) (by decide) (fun _ _ _ h => h) (Or.inl ⟨by rfl, ?ah10⟩) (by assumption) ?ar10
            case ah10 => (intro w8 hT8; replace hT8 := hTu w8 hT8; go_simp; try with_reducible rfl)
            case ar10 =>
            try simp only [Act.put, List.setIfInBounds_toArray, List.set_cons_zero, List.set_cons_succ]
            refine AnyBut.take (i := 11) (v := ?av11) rfl (by decide +kernel) (by decide +kernel) (by decide +kernel) (by decide +kernel) (by decide) (fun _ _ _ h => h) (Or.inl ⟨by rfl, ?ah11⟩) (by assumption) ?ar11
            case ah11 => (intro w8 hT8; replace hT8 := hTu w8 hT8; go_simp; try with_reducible rfl)
            case ar11 =>
            try simp only [Act.put, List.setIfInBounds_toArray, List.set_cons_zero, List.set_cons_succ]
            refine AnyBut.take (i := 12) (v := ?av12) rfl (by decide +kernel) (by decide +kernel) (by decide +kernel) (by decide +kernel) (by decide) (fun _ _ _ h => h) (Or.inl ⟨by rfl, ?ah12⟩) (by assumption) ?ar12
            case ah12 => (intro w8 hT8; replace hT8 := hTu w8 hT8; go_simp; try with_reducible rfl)
            case ar12 =>
            try simp only [Act.put, List.setIfInBounds_toArray, List.set_cons_zero, List.set_cons_succ]
            refine AnyBut.take (i := 13) (v := ?av13) rfl (by decide +kernel) (by decide +kernel) (by decide +kernel) (by decide +kernel) (by decide) (fun _ _ _ h => h) (Or.inl ⟨by rfl, ?ah13⟩) (by assumption) ?ar13
            case ah13 => (intro w8 hT8; replace hT8 := hTu w8 hT8; go_simp; try with_reducible rfl)
            case ar13 =>
            try simp only [Act.put, List.setIfInBounds_toArray, List.set_cons_zero, List.set_cons_succ]
            refine AnyBut.only (i := 14) (by decide +kernel) ?_
            refine wpOp_step rfl fun K' hK => ?_
            have HK : Shut _ := hK
            clear hK
            go_simp
            have hT8 : T (w4.alloc (.cells #[iv x] 3 (0, 0))).drew := hTm _ ⟨by show (w4.alloc _).cell? _ = _; rw [World.cell?_alloc_some _ _ _ (by rw [c5]; rfl)]; exact c5, by show (w4.alloc _).cell? _ = _; rw [World.cell?_alloc_some _ _ _ (by rw [d5]; rfl)]; exact d5⟩
            refine HK.out _ _ ⟨fun _ => hT8, ?_⟩
            clear HK
            try simp only [Act.put, List.setIfInBounds_toArray, List.set_cons_zero, List.set_cons_succ]
            refine AnyBut.only (i := 15) (by decide +kernel) ?_
            refine wpOp_step rfl fun K' hK => ?_
            have HK : Shut _ := hK
            clear hK
            refine step_append_lies _ (by rfl) _ _ _ (by rfl) E.B 3 i0 _ 1 8 Yba.underlying26 hi hz0 hz1 hz2 rfl (by omega) _ (r2 p).length ((r2 p).map iv) (by rfl) hcy2.drew ⟨w4.heap.size, 0, none⟩ 1 1 [iv x] (by rfl) (by rfl) (World.news_of_block (cs := #[iv x]) (t := 3) (fr := (0, 0)) (heap_alloc_new w4 _)) (by simp [Value.oneCell']) (by omega) (by unfold maxLen; omega) (by omega) (by simp; omega) (w4.heap.size + 1) (by simp) ?_
            intro g9 cap9 w9 hown9 hgr9 hat9 hlt9
            have hgr9' : w4.grownBy w9 (V3 (.mem p)).ownBlock := by rw [ex]; exact grown_trans (World.grownBy_alloc _ _ _) ⟨hgr9.os, hgr9.tape, hgr9.output, hgr9.size, hgr9.block⟩
            have hst9 := HV4.out.mi.far (RwOf_mem (s := { s with mem := r2, off := upd s.off id 0, held := r0, within := (id : Int), tj := { r1 with idx := upd r1.idx x 0 } }) hpn) hgr9'
            obtain ⟨own9, V9, hV9⟩ := HV4.out.pushMem p x hpn HOFF.out e5 hgr9' hown9 (by rw [ex]; exact hat9.imp (fun h => h) (fun h => by omega))
            have HV9 : Hid (HI E { s with mem := upd r2 p (r2 p ++ [x]), off := upd s.off id 0, held := r0, within := (id : Int), tj := { r1 with idx := upd r1.idx x 0 } } (w9.setCell ⟨g5, p * 2, none⟩ (.slice (some ⟨g9, 0, none⟩) ((r2 p).length + 1) cap9))) := ⟨own9, V9, hV9⟩
            have k9b : w9.cell? ⟨E.bs, 5, none⟩ = some (.slice (some ⟨g5, 0, none⟩) r1.np k5) := by rw [← e5]; simp [World.cell?, hst9, csOf]
            have hR9 := HV4.out.mi.rowFar (u := .prt) (RwOf_mem (s := { s with mem := r2, off := upd s.off id 0, held := r0, within := (id : Int), tj := { r1 with idx := upd r1.idx x 0 } }) hpn) rfl (by simp) hgr9'
            have k9d : w9.cell? ⟨g5, p * 2, none⟩ = some (.slice px (r2 p).length cx) := by
              have := hR9.cell (i := p * 2) (u := V3 (.mem p)) e5 (prtX_get0 _ _ _ _ hpn)
              rw [ex] at this
              simpa using this
            have k9f : w9.frozen? ⟨g5, p * 2, none⟩ = false := hR9.frozen e5 _
            clear hown9 hgr9 hat9 hlt9 hgr9' hst9 hV9 hT8 hT0 hcy2 hR9
            have hT9 : T w9 := hTm _ ⟨k9b, k9d⟩
            refine HK.out _ _ ⟨fun _ => hT9, ?_⟩
            clear HK
            try simp only [Act.put, List.setIfInBounds_toArray, List.set_cons_zero, List.set_cons_succ]
            refine AnyBut.only (i := 16) (by decide +kernel) ?_
            refine wpOp_step rfl fun K' hK => ?_
            have HK : Shut _ := hK
            clear hK
            go_simp
            refine HK.out _ _ ⟨fun _ => hT9, ?_⟩
            clear HK
            try simp only [Act.put, List.setIfInBounds_toArray, List.set_cons_zero, List.set_cons_succ]
            refine AnyBut.only (i := 17) (by decide +kernel) ?_
            refine wpOp_step rfl fun K' hK => ?_
            have HK : Shut _ := hK
            clear hK
            go_simp
            refine HK.out _ _ ⟨fun _ => hT9, ?_⟩
            clear HK
            try simp only [Act.put, List.setIfInBounds_toArray, List.set_cons_zero, List.set_cons_succ]
            refine AnyBut.only (i := 18) (by decide +kernel) ?_
            refine wpOp_step rfl fun K' hK => ?_
            have HK : Shut _ := hK
            clear hK
            go_simp
            refine HK.out _ _ ⟨fun h => absurd rfl h, AnyBut.done (by decide +kernel) ?_ _⟩
            clear HK k9b k9d k9f hT9 hTm hTu c5 d5 HV4
            as_aux_lemma =>
              go_wp2_with fail
              go_roundg ((s.mem id).length - (k + 1))
              case measure => rw [HGK.out]; omega
              case rel => exact ⟨k + 1, rfl, by omega, by go_num, by rw [HNX.out]; exact HV9.out⟩
          · rw [if_neg hpx] at HS2
            have HNX : Hid (HI E { s with mem := (Rr E.A E.n id s (k + 1)).2, off := upd s.off id 0, held := r0, within := (id : Int), tj := (Rr E.A E.n id s (k + 1)).1 } w4) := by rw [HSU.out, HS2.out]; exact ⟨_, _, HV4.out⟩
            have hpx' : r1.pof x < 0 := by omega
            clear HV4 hpx HQX
            as_aux_lemma =>
              go_wp2_with fail
              go_roundg ((s.mem id).length - (k + 1))
              case measure => rw [HGK.out]; omega
              case rel => exact ⟨k + 1, rfl, by omega, by go_num, HNX.out⟩
        · obtain rfl : k = (s.mem id).length := by omega
          as_aux_lemma =>
            go_wp2_with fail
            go_meet
            rw [HALL.out (by first | rfl | trivial)]
            exact ⟨_, _, HV3.out⟩
    case rest =>
      have HRK := HRR.out (s.mem id).length
      rw [HRZ.out] at HRK
      generalize Rz E.A E.n id s = r at *
      obtain ⟨t2, m2⟩ := r
      obtain ⟨hq1, hq2, hq3, hq4, hq5, hq6⟩ := HRK
      have HQ6 : Hid (∀ p, s.tj.np ≤ p → ∀ u ∈ m2 p, u < E.n) := fun p hp => (hq6 p hp).2
      have hnp1 : t2.np ≤ 1000 := by have : t2.np = (Tz E.A E.n id s).np := hq2; omega
      have hnp2 : s.tj.np ≤ t2.np := by have : t2.np = (Tz E.A E.n id s).np := hq2; omega
      have HHd : Hid (HI E { s with mem := m2, off := upd s.off id 0, held := none, within := (id : Int), tj := t2, loo := s.loo } wc) := by obtain ⟨a, b, h⟩ := hcut; exact ⟨a, b, h.drop⟩
      clear hcut HHc HRR HRZ HR00 HSQ4 hq1 hq2 hq3 hq4 hq5 hq6
      have HL0 : Hid (loosL E.A E.R t2.pof m2 s.tj.np s.loo 0 = s.loo) := rfl
      go_wp2_with fail
      go_loopg [11] (t2.np - s.tj.np) (fun gn pv wr => ∃ k : Nat, gn = t2.np - s.tj.np - k ∧ k ≤ t2.np - s.tj.np ∧ pv = iv (s.tj.np + k) ∧ HI E { s with mem := m2, off := upd s.off id 0, held := none, within := (id : Int), tj := t2, loo := loosL E.A E.R t2.pof m2 s.tj.np s.loo k } wr)
      case atStart => exact ⟨0, rfl, Nat.zero_le _, rfl, by rw [HL0.out]; exact HHd.out⟩
      case round =>
        clear HHd HL0
        obtain ⟨k, hgk, hk, rfl, own3, V3, hV3⟩ := hrel
        have HGK : Hid (gk = t2.np - s.tj.np - k) := hgk
        have HSU : Hid (loosL E.A E.R t2.pof m2 s.tj.np s.loo (k + 1) = upd (loosL E.A E.R t2.pof m2 s.tj.np s.loo k) (s.tj.np + k) (loosestP E.A E.R t2.pof (s.tj.np + k) (m2 (s.tj.np + k)))) := rfl
        have HALL : Hid (k = t2.np - s.tj.np → loosL E.A E.R t2.pof m2 s.tj.np s.loo (t2.np - s.tj.np) = loosL E.A E.R t2.pof m2 s.tj.np s.loo k) := fun h => by rw [h]
        generalize loosL E.A E.R t2.pof m2 s.tj.np s.loo k = lo at *
        obtain ⟨q, hq⟩ : ∃ q, q = s.tj.np + k := ⟨_, rfl⟩
        rw [← hq] at HSU ⊢
        have HV3 : Hid (HV E own3 V3 { s with mem := m2, off := upd s.off id 0, held := none, within := (id : Int), tj := t2, loo := lo } wr) := hV3
        clear hgk hV3
        obtain ⟨g5, k5, e5, _, _, hc5, hf5⟩ := HV3.out.prtForm (show 0 < t2.np by omega)
        have c5 : wr.cell? ⟨E.bs, 5, none⟩ = some (.slice (some ⟨g5, 0, none⟩) t2.np k5) := by rw [← e5]; exact HV3.out.mi.cell rfl
        by_cases hlt : k < t2.np - s.tj.np
        · have hqn : q < t2.np := by omega
          have hqn' : (q : Int) < (t2.np : Int) := by omega
          have HQM : Hid (∀ u ∈ m2 q, u < E.n) := HQ6.out q (by omega)
          have HQE : Hid (q = s.tj.np + k) := hq
          have HF5 : Hid (∀ i, wr.frozen? ⟨g5, i, none⟩ = false) := hf5
          have HC5 : Hid (∀ p, p < t2.np → wr.cell? ⟨g5, p * 2, none⟩ = some (V3 (.mem p)) ∧ wr.cell? ⟨g5, p * 2 + 1, none⟩ = some (.int .i64 (lo p))) := hc5
          have hq1k : q ≤ 1000 := by omega
          clear hc5 hf5 HALL hq
          go_upto_region 21 with fail
          obtain ⟨T, hTd⟩ : ∃ T : World → Prop, T = fun w' => w'.cell? ⟨E.bs, 5, none⟩ = some (.slice (some ⟨g5, 0, none⟩) t2.np k5) := ⟨_, rfl⟩
          have hTu : ∀ w', T w' → w'.cell? ⟨E.bs, 5, none⟩ = some (.slice (some ⟨g5, 0, none⟩) t2.np k5) := fun w' h => by rw [hTd] at h; exact h
          have hTm : ∀ w', w'.cell? ⟨E.bs, 5, none⟩ = some (.slice (some ⟨g5, 0, none⟩) t2.np k5) → T w' := fun w' h => by rw [hTd]; exact h
          have hT0 : T wr.drew := hTm _ c5
          clear hTd
          refine AnyBut.start (last := 10) (T := T) (by decide +kernel) ?_
          refine AnyBut.take (i := 0) (v := ?cv0) rfl (by decide +kernel) (by decide +kernel) (by decide +kernel) (by decide +kernel) (by decide) (fun _ _ _ h => h) (Or.inl ⟨by rfl, ?ch0⟩) (by assumption) ?cr0
          case ch0 => (intro w8 hT8; replace hT8 := hTu w8 hT8; go_simp; try with_reducible rfl)
          case cr0 =>
          try simp only [Act.put, List.setIfInBounds_toArray, List.set_cons_zero, List.set_cons_succ]
          refine AnyBut.take (i := 1) (v := ?cv1) rfl (by decide +kernel) (by decide +kernel) (by decide +kernel) (by decide +kernel) (by decide) (fun _ _ _ h => h) (Or.inl ⟨by rfl, ?ch1⟩) (by assumption) ?cr1
          case ch1 => (intro w8 hT8; replace hT8 := hTu w8 hT8; go_simp; try with_reducible rfl)
          case cr1 =>
          try simp only [Act.put, List.setIfInBounds_toArray, List.set_cons_zero, List.set_cons_succ]
          refine AnyBut.take (i := 2) (v := ?cv2) rfl (by decide +kernel) (by decide +kernel) (by decide +kernel) (by decide +kernel) (by decide) (fun _ _ _ h => h) (Or.inl ⟨by rfl, ?ch2⟩) (by assumption) ?cr2
          case ch2 => (intro w8 hT8; replace hT8 := hTu w8 hT8; go_simp; try with_reducible rfl)
          case cr2 =>
          try simp only [Act.put, List.setIfInBounds_toArray, List.set_cons_zero, List.set_cons_succ]
          refine AnyBut.take (i := 3) (v := ?cv3) rfl (by decide +kernel) (by decide +kernel) (by decide +kernel) (by decide +kernel) (by decide) (fun _ _ _ h => h) (Or.inl ⟨by rfl, ?ch3⟩) (by assumption) ?cr3
          case ch3 => (intro w8 hT8; replace hT8 := hTu w8 hT8; go_simp; try with_reducible rfl)
          case cr3 =>
          try simp only [Act.put, List.setIfInBounds_toArray, List.set_cons_zero, List.set_cons_succ]
          refine AnyBut.take (i := 4) (v := ?cv4) rfl (by decide +kernel) (by decide +kernel) (by decide +kernel) (by decide +kernel) (by decide) (fun _ _ _ h => h) (Or.inl ⟨by rfl, ?ch4⟩) (by assumption) ?cr4
          case ch4 => (intro w8 hT8; replace hT8 := hTu w8 hT8; go_simp; try with_reducible rfl)
          case cr4 =>
          try simp only [Act.put, List.setIfInBounds_toArray, List.set_cons_zero, List.set_cons_succ]
          refine AnyBut.take (i := 5) (v := ?cv5) rfl (by decide +kernel) (by decide +kernel) (by decide +kernel) (by decide +kernel) (by decide) (fun _ _ _ h => h) (Or.inl ⟨by rfl, ?ch5⟩) (by assumption) ?cr5
          case ch5 => (intro w8 hT8; replace hT8 := hTu w8 hT8; go_simp; try with_reducible rfl)
          case cr5 =>
          try simp only [Act.put, List.setIfInBounds_toArray, List.set_cons_zero, List.set_cons_succ]
          refine AnyBut.take (i := 6) (v := ?cv6) rfl (by decide +kernel) (by decide +kernel) (by decide +kernel) (by decide +kernel) (by decide) (fun _ _ _ h => h) (Or.inl ⟨by rfl, ?ch6⟩) (by assumption) ?cr6
          case ch6 => (intro w8 hT8; replace hT8 := hTu w8 hT8; go_simp; try with_reducible rfl)
          case cr6 =>
          try simp only [Act.put, List.setIfInBounds_toArray, List.set_cons_zero, List.set_cons_succ]
          refine AnyBut.only (i := 7) (by decide +kernel) ?_
          refine wpOp_step rfl fun K' hK => ?_
          have HK : Shut _ := hK
          clear hK
          go_simp
          refine (loosest14 HX.out HRX.out (show HV E own3 V3 { s with mem := m2, off := upd s.off id 0, held := none, within := (id : Int), tj := t2, loo := lo } wr.drew from HV3.out.drewN 1) (id := q) hqn HQM.out).mono ?_
          rintro e w7 ⟨rfl, hg7⟩
          have HV7 : Hid (HV E own3 V3 { s with mem := m2, off := upd s.off id 0, held := none, within := (id : Int), tj := t2, loo := lo } w7) := (HV3.out.drewN 1).grow hg7
          have k5 : w7.cell? ⟨E.bs, 5, none⟩ = some (.slice (some ⟨g5, 0, none⟩) t2.np k5) := by rw [← e5]; exact HV7.out.mi.cell rfl
          have hT7 : T w7 := hTm _ k5
          obtain ⟨g5', k5', e5', _, _, hc5, hf5⟩ := HV7.out.prtForm (show 0 < t2.np by omega)
          obtain ⟨rfl, rfl⟩ : g5 = g5' ∧ _ = k5' := by rw [e5] at e5'; simp at e5'; exact ⟨e5'.1, e5'.2⟩
          have d5 := (hc5 q hqn).2
          have d5f : w7.frozen? ⟨g5, q * 2 + 1, none⟩ = false := hf5 _
          have HH8 : Hid (HI E { s with mem := m2, off := upd s.off id 0, held := none, within := (id : Int), tj := t2, loo := loosL E.A E.R t2.pof m2 s.tj.np s.loo (k + 1) } (w7.setCell ⟨g5, q * 2 + 1, none⟩ (.int .i64 (loosestP E.A E.R t2.pof q (m2 q))))) := by
            show HI E { s with mem := m2, off := upd s.off id 0, held := none, within := (id : Int), tj := t2, loo := loosL E.A E.R t2.pof m2 s.tj.np s.loo (k + 1) } _
            rw [HSU.out]
            exact ⟨_, _, HV7.out.setLoo e5 q hqn _⟩
          clear hg7 hc5 hf5 HV7 HV3 HC5 HF5 e5'
          refine HK.out _ _ ⟨fun _ => hT7, ?_⟩
          clear HK
          try simp only [Act.put, List.setIfInBounds_toArray, List.set_cons_zero, List.set_cons_succ]
          refine AnyBut.only (i := 8) (by decide +kernel) ?_
          refine wpOp_step rfl fun K' hK => ?_
          have HK : Shut _ := hK
          clear hK
          go_simp
          refine HK.out _ _ ⟨fun _ => hT7, ?_⟩
          clear HK
          try simp only [Act.put, List.setIfInBounds_toArray, List.set_cons_zero, List.set_cons_succ]
          refine AnyBut.only (i := 9) (by decide +kernel) ?_
          refine wpOp_step rfl fun K' hK => ?_
          have HK : Shut _ := hK
          clear hK
          go_simp
          refine HK.out _ _ ⟨fun _ => hT7, ?_⟩
          clear HK
          try simp only [Act.put, List.setIfInBounds_toArray, List.set_cons_zero, List.set_cons_succ]
          refine AnyBut.only (i := 10) (by decide +kernel) ?_
          refine wpOp_step rfl fun K' hK => ?_
          have HK : Shut _ := hK
          clear hK
          go_simp
          refine HK.out _ _ ⟨fun h => absurd rfl h, AnyBut.done (by decide +kernel) ?_ _⟩
          clear HK k5 d5 d5f hT7 hTm hTu c5 hT0
          as_aux_lemma =>
            go_wp2_with fail
            go_roundg (t2.np - s.tj.np - (k + 1))
            case measure => rw [HGK.out]; omega
            case rel => exact ⟨k + 1, rfl, by omega, by rw [HQE.out]; go_num, HH8.out⟩
        · obtain rfl : k = t2.np - s.tj.np := by omega
          have HHE : Hid (HI E { hsOf s (splitP E.A E.R E.n id (ssOf s)) with within := (id : Int), off := upd s.off id 0 } wr) := by
            show HI E { hsOf s (splitP E.A E.R E.n id (ssOf s)) with within := (id : Int), off := upd s.off id 0 } wr
            rw [HSQ.out]
            have h := HV3.out
            rw [← HALL.out (by first | rfl | trivial), ← HP.out.held] at h
            exact ⟨_, _, h⟩
          have hqe : ¬ (q : Int) < (t2.np : Int) := by omega
          clear HV3 hc5 hf5
          as_aux_lemma =>
            go_wp2_with fail
            go_end0
            exact ⟨rfl, HHE.out⟩
end Go.Proofs.Ybulkcyk
