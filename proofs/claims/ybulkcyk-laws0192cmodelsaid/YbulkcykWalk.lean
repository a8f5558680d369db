/-
  (*search).walk (function 13), walked.
-/
import Derived.Test.YbulkcykPop
import Derived.Test.YbulkcykOrder
namespace Go.Proofs.Ybulkcyk
open Go.RowKit
set_option linter.unusedSimpArgs false

set_option maxRecDepth 10000 in
set_option maxHeartbeats 3200000 in
theorem walk13 {E : En} (X : EH E) {M : Nat → Prop} {id np0 : Nat} {p0 : Nat → Int} {K : Nat} (W : WE E M id np0 K) : ∀ f v s w, HI E s w → WPre E M id np0 p0 K f v s → Calls Yba.prog 13 #[.pointer (some ⟨E.bs, 0, none⟩), iv v] w fun e w' => e = .returned (.tuple #[]) ∧ HI E { s with tj := walkP E.A id f v s.tj } w' := by
  intro f
  induction f with
  | zero =>
    intro v s w _ P
    obtain ⟨L, hl, hm⟩ := P.fu
    have := List.length_pos_of_mem (hm v (P.ti.sub v P.pv) P.iv)
    omega
  | succ f ih =>
    intro v s w hHI P
    have IH : Hid (∀ v s w, HI E s w → WPre E M id np0 p0 K f v s → Calls Yba.prog 13 #[.pointer (some ⟨E.bs, 0, none⟩), iv v] w fun e w' => e = .returned (.tuple #[]) ∧ HI E { s with tj := walkP E.A id f v s.tj } w') := ih
    have HP : Hid (WPre E M id np0 p0 K (f + 1) v s) := P
    have HX : Hid (EH E) := X
    have HW : Hid (WE E M id np0 K) := W
    have hn7 : E.n ≤ 7 := X.n7
    have hvn : v < E.n := W.Mn v (P.ti.sub v P.pv)
    have hvn' : (v : Int) < (E.n : Int) := by omega
    have hrc : s.tj.rch ≤ E.n := P.ti.rch7
    have HFA : Hid (∀ k, k ≤ (E.A v).length → WL E.A M id np0 p0 E.n K v s.tj ((E.A v).take k) (Wk E.A id f v s.tj k)) := wk_facts W P
    have hsl := (P.ti.stkn W.Mn).1
    have HEQ : Hid (walkP E.A id (f + 1) v s.tj = walkX E.A v (Wk E.A id f v s.tj (E.A v).length)) := by show walkP E.A id (f + 1) v s.tj = _; rw [walkP_succ, Wk_all]
    obtain ⟨own, V, HV0⟩ := hHI
    clear ih P X W
    obtain ⟨i0, hi, hz0, hz1, hz2⟩ := info_parts Yba.info3
    have HV1 : Hid (HV E own V s w) := HV0
    clear HV0
    obtain ⟨r1, hr1⟩ : ∃ r1, r1 = s.tj.rch + 1 := ⟨_, rfl⟩
    have hr8 : r1 ≤ 8 := by omega
    have HR1 : Hid (r1 = s.tj.rch + 1) := hr1
    have HW0 : Hid (walk0 v s.tj = { s.tj with rch := r1, idx := upd s.tj.idx v r1, low := upd s.tj.low v r1, stk := s.tj.stk ++ [v], ons := upd s.tj.ons v true }) := by rw [HR1.out]; rfl
    have c17 : w.cell? ⟨E.bs, 17, none⟩ = some (.int .i64 (s.tj.rch : Int)) := HV1.out.mi.cell rfl
    have f17 : w.frozen? ⟨E.bs, 17, none⟩ = false := HV1.out.mi.frozen 17
    have HV2 : Hid (HV E own V { s with tj := { s.tj with rch := r1 } } (w.setCell ⟨E.bs, 17, none⟩ (.int .i64 ((s.tj.rch : Int) + 1)))) := by
      have h := HV1.out.setRch r1
      rw [show (iv r1 : Value) = .int .i64 ((s.tj.rch : Int) + 1) by rw [HR1.out]; rfl] at h
      exact h
    clear HV1
    go_enter Yba.func13, Yba.ntmps13
    go_upto_region 1 with fail
    clear c17 f17
    generalize w.setCell ⟨E.bs, 17, none⟩ (.int .i64 ((s.tj.rch : Int) + 1)) = w2 at *
    clear hr1
    obtain ⟨b13, e13⟩ := HV2.out.fx .idx rfl
    obtain ⟨b14, e14⟩ := HV2.out.fx .low rfl
    have c13 : w2.cell? ⟨E.bs, 13, none⟩ = some (.slice (some ⟨b13, 0, none⟩) E.n E.n) := by rw [← e13]; exact HV2.out.mi.cell rfl
    have c14 : w2.cell? ⟨E.bs, 14, none⟩ = some (.slice (some ⟨b14, 0, none⟩) E.n E.n) := by rw [← e14]; exact HV2.out.mi.cell rfl
    have c17 : w2.cell? ⟨E.bs, 17, none⟩ = some (.int .i64 (r1 : Int)) := HV2.out.mi.cell rfl
    have d13 : w2.cell? ⟨b13, v, none⟩ = some (.int .i64 (s.tj.idx v)) := (HV2.out.cIdx e13 hvn).1
    have d13f : w2.frozen? ⟨b13, v, none⟩ = false := (HV2.out.cIdx e13 hvn).2
    have d14 : w2.cell? ⟨b14, v, none⟩ = some (.int .i64 (s.tj.low v)) := (HV2.out.cLow e14 hvn).1
    have d14f : w2.frozen? ⟨b14, v, none⟩ = false := (HV2.out.cLow e14 hvn).2
    have hne : b13 ≠ b14 := fun e => by
      have h1 := (HV2.out.mi.row .idx _ rfl).2 b13 (by rw [show (rowF 3 (V .idx) E.n _).v = V .idx from rfl, e13]; rfl)
      have h2 := (HV2.out.mi.row .low _ rfl).2 b14 (by rw [show (rowF 3 (V .low) E.n _).v = V .low from rfl, e14]; rfl)
      rw [e, h2] at h1
      cases h1
    have HV3 : Hid (HV E own V { s with tj := { s.tj with rch := r1, idx := upd s.tj.idx v r1, low := upd s.tj.low v r1 } } ((w2.setCell ⟨b13, v, none⟩ (.int .i64 (r1 : Int))).setCell ⟨b14, v, none⟩ (.int .i64 (r1 : Int))).drew) := (((HV2.out.setIdx e13 v r1).setLow e14 v r1).drewN 1)
    clear HV2
    go_wp2_with fail
    go_region
    clear c13 c14 c17 d13 d13f d14 d14f hne e13 e14
    generalize ((w2.setCell ⟨b13, v, none⟩ (.int .i64 (r1 : Int))).setCell ⟨b14, v, none⟩ (.int .i64 (r1 : Int))).drew = w3 at *
    have c16 : w3.cell? ⟨E.bs, 16, none⟩ = some (V .stk) := HV3.out.mi.cell rfl
    have hown : w3.ownsRow E.B 3 1 (V .stk) s.tj.stk.length (s.tj.stk.map iv) := (HV3.out.mi.row .stk _ rfl).1.owns rfl
    have hbsz := HV3.out.mi.sz
    have hbsB := HV3.out.mi.bsB
    generalize hpv : V .stk = pv at *
    have HPV : Hid (V .stk = pv) := hpv
    clear hpv
    have hown6 := hown.alloc (.cells #[iv v] 3 (0, 0))
    have hnew : ∀ j u, [iv v][j]? = some u → (w3.alloc (.cells #[iv v] 3 (0, 0))).cell? (Addr.add ⟨w3.heap.size, 0, none⟩ j) = some u := World.news_of_block (cs := #[iv v]) (t := 3) (fr := (0, 0)) (heap_alloc_new w3 _)
    have hone : ∀ u ∈ [iv v], u.oneCell' = true := fun u hu => by obtain rfl := List.mem_singleton.1 hu; rfl
    go_wp2_with (at_builtin; refine wpList_append_lies _ rfl _ _ 26 rfl E.B 3 i0 _ 1 8 Yba.underlying26 hi hz0 hz1 hz2 rfl (by omega) _ s.tj.stk.length (s.tj.stk.map iv) rfl hown6 ⟨w3.heap.size, 0, none⟩ 1 1 [iv v] rfl rfl hnew hone (by omega) (by unfold maxLen; omega) (by omega) (by simp; omega) _ rfl ?_)
    intro g7 cap7 w7 hown7 hgr7 hat7 hlt7
    have hgr8 : w3.grownBy w7 (V .stk).ownBlock := by rw [HPV.out]; exact grown_trans (World.grownBy_alloc _ _ _) hgr7
    have hst7 := HV3.out.mi.far (t := .stk) rfl hgr8
    have c16' : w7.cell? ⟨E.bs, 16, none⟩ = some pv := by rw [← HPV.out]; simp [World.cell?, hst7, csOf]
    have f16' : w7.frozen? ⟨E.bs, 16, none⟩ = false := by simp [World.frozen?, hst7]
    obtain ⟨own2, hV2⟩ := HV3.out.pushStk v hgr8 hown7 (by rw [HPV.out]; exact hat7.imp (fun h => h) (fun h => by omega))
    have HV4 : Hid (HV E own2 (updV V .stk (.slice (some ⟨g7, 0, none⟩) (s.tj.stk.length + 1) cap7)) { s with tj := { s.tj with rch := r1, idx := upd s.tj.idx v r1, low := upd s.tj.low v r1, stk := s.tj.stk ++ [v] } } (w7.setCell ⟨E.bs, 16, none⟩ (.slice (some ⟨g7, 0, none⟩) (s.tj.stk.length + 1) cap7))) := hV2
    clear hV2 HV3 hown hown6 hnew hone hown7 hgr7 hat7 hlt7 hgr8 hst7 c16
    go_upto_region 3 with fail
    clear c16' f16'
    generalize w7.setCell ⟨E.bs, 16, none⟩ (.slice (some ⟨g7, 0, none⟩) (s.tj.stk.length + 1) cap7) = w8 at *
    generalize updV V .stk (.slice (some ⟨g7, 0, none⟩) (s.tj.stk.length + 1) cap7) = V2 at *
    obtain ⟨b15, e15⟩ := HV4.out.fx .ons rfl
    have c15 : w8.cell? ⟨E.bs, 15, none⟩ = some (.slice (some ⟨b15, 0, none⟩) E.n E.n) := by rw [← e15]; exact HV4.out.mi.cell rfl
    have d15 : w8.cell? ⟨b15, v, none⟩ = some (.bool (s.tj.ons v)) := (HV4.out.cOns e15 hvn).1
    have d15f : w8.frozen? ⟨b15, v, none⟩ = false := (HV4.out.cOns e15 hvn).2
    have HH5 : Hid (HI E { s with tj := walk0 v s.tj } (w8.setCell ⟨b15, v, none⟩ (.bool true))) := by rw [HW0.out]; exact ⟨_, _, HV4.out.setOns e15 v true⟩
    clear HV4
    go_upto_region 4 with fail
    clear c15 d15 d15f e15
    generalize w8.setCell ⟨b15, v, none⟩ (.bool true) = w9 at *
    as_aux_lemma =>
      obtain ⟨ga, ca, pA, cA, ea, hadj⟩ := HX.out.adj.at hvn
      have HAD : Hid (∀ own V s w, HV E own V s w → w.cell? ⟨ga, v, none⟩ = some (.slice pA (E.A v).length cA) ∧ SlR w pA (E.A v)) := hadj
      clear hadj
      have hAL : (E.A v).length ≤ 7 := by have := sorted_len (HX.out.srt v) (HX.out.lt v); omega
      obtain ⟨own3, V3, hV3⟩ := HH5.out
      have c0 : w9.cell? ⟨E.bs, 0, none⟩ = some (.slice (some ⟨ga, 0, none⟩) E.n ca) := by rw [← ea]; exact hV3.mi.cell rfl
      have a0 := (HAD.out _ _ _ _ hV3).1
      clear hV3
      have HR0 : Hid (Wk E.A id f v s.tj 0 = walk0 v s.tj) := rfl
      go_wp2_with fail
      clear c0 a0
      go_loopg [62] (E.A v).length (fun gn kv wr => ∃ k : Nat, gn = (E.A v).length - k ∧ k ≤ (E.A v).length ∧ kv = iv k ∧ HI E { s with tj := Wk E.A id f v s.tj k } wr)
      case atStart => exact ⟨0, rfl, Nat.zero_le _, rfl, by rw [HR0.out]; exact HH5.out⟩
      case round =>
        as_aux_lemma =>
          clear HH5 HR0
          obtain ⟨k, hgk, hk, rfl, hhi⟩ := hrel
          have HGK : Hid (gk = (E.A v).length - k) := hgk
          have HF : Hid (WL E.A M id np0 p0 E.n K v s.tj ((E.A v).take k) (Wk E.A id f v s.tj k)) := HFA.out k hk
          have HSUC : Hid (k < (E.A v).length → Wk E.A id f v s.tj (k + 1) = walkS E.A id f v (Wk E.A id f v s.tj k) ((E.A v).getD k 0)) := fun h => Wk_succ _ _ _ _ _ _ h
          have HALL : Hid (k = (E.A v).length → walkP E.A id (f + 1) v s.tj = walkX E.A v (Wk E.A id f v s.tj k)) := fun h => by rw [h]; exact HEQ.out
          generalize Wk E.A id f v s.tj k = t at *
          obtain ⟨own4, V4, hV4⟩ := hhi
          have HV4 : Hid (HV E own4 V4 { s with tj := t } wr) := hV4
          clear hgk hV4
          by_cases hlt : k < (E.A v).length
          · have hlt' : (k : Int) < ((E.A v).length : Int) := by omega
            obtain ⟨gA, oA, epA, hcell⟩ := (HAD.out _ _ _ _ HV4.out).2 (by omega)
            have akk := hcell k hlt
            have HXm : Hid ((E.A v).getD k 0 ∈ E.A v) := by
              show (E.A v).getD k 0 ∈ E.A v
              rw [List.getD_eq_getElem?_getD, List.getElem?_eq_getElem hlt]; exact List.getElem_mem _
            have HSU : Hid (Wk E.A id f v s.tj (k + 1) = walkS E.A id f v t ((E.A v).getD k 0)) := HSUC.out hlt
            clear hcell HSUC HALL
            generalize hxx : (E.A v).getD k 0 = x at *
            clear hxx
            subst epA
            have hxn : x < E.n := HX.out.lt v x HXm.out
            have hxn' : (x : Int) < (E.n : Int) := by omega
            have hwi := HP.out.wi
            obtain ⟨b4, e4⟩ := HV4.out.fx .pof rfl
            have c4 : wr.cell? ⟨E.bs, 4, none⟩ = some (.slice (some ⟨b4, 0, none⟩) E.n E.n) := by rw [← e4]; exact HV4.out.mi.cell rfl
            have d4 : wr.cell? ⟨b4, x, none⟩ = some (.int .i64 (t.pof x)) := (HV4.out.cPof e4 hxn).1
            have c7 : wr.cell? ⟨E.bs, 7, none⟩ = some (.int .i64 (id : Int)) := by rw [← hwi]; exact HV4.out.mi.cell rfl
            have HWS : Hid (walkS E.A id f v t x = if t.pof x ≠ (id : Int) then t else if t.idx x = 0 then { walkP E.A id f x t with low := upd (walkP E.A id f x t).low v (min ((walkP E.A id f x t).low v) ((walkP E.A id f x t).low x)) } else if t.ons x then { t with low := upd t.low v (min (t.low v) (t.idx x)) } else t) := rfl
            as_aux_lemma =>
              by_cases hp : t.pof x = (id : Int)
              · have hpd : (t.pof x != (id : Int)) = false := by simpa using hp
                rw [if_neg (by simpa using hp)] at HWS
                have HPX : Hid (t.pof x = (id : Int)) := hp
                clear hp
                go_wp2_with fail
                go_quiet (fail)
                have HV5 : Hid (HV E own4 V4 { s with tj := t } (wr.drewN nq)) := HV4.out.drewN nq
                clear HV4 c4 d4 c7 akk
                generalize wr.drewN nq = w5 at *
                obtain ⟨b13, e13⟩ := HV5.out.fx .idx rfl
                have c13 : w5.cell? ⟨E.bs, 13, none⟩ = some (.slice (some ⟨b13, 0, none⟩) E.n E.n) := by rw [← e13]; exact HV5.out.mi.cell rfl
                have d13 : w5.cell? ⟨b13, x, none⟩ = some (.int .i64 (t.idx x)) := (HV5.out.cIdx e13 hxn).1
                as_aux_lemma =>
                  by_cases hi0 : t.idx x = 0
                  · rw [if_pos hi0] at HWS
                    have d13' : w5.cell? ⟨b13, x, none⟩ = some (.int .i64 0) := by rw [d13, hi0]; rfl
                    have HCP : Hid (WPre E M id np0 p0 K f x { s with tj := t }) := by
                      have P := HP.out
                      have F := HF.out
                      exact ⟨F.ti, wfuel_rec P.fu (P.ti.sub v P.pv) P.iv (fun u hu => by rw [(F.old u hu).1]; exact hu) (by rw [F.iv]; omega), HPX.out, hi0, P.wi, P.fr⟩
                    clear d13
                    go_wp2_with fail
                    refine (IH.out x { s with tj := t } w5 ⟨_, _, HV5.out⟩ HCP.out).mono ?_
                    rintro e w6 ⟨rfl, hh6⟩
                    obtain ⟨own6, V6, hV6⟩ := hh6
                    generalize walkP E.A id f x t = t' at *
                    have HV6 : Hid (HV E own6 V6 { s with tj := t' } w6) := hV6
                    clear hV6 HV5 HCP c13 d13' e13
                    obtain ⟨b14, e14⟩ := HV6.out.fx .low rfl
                    have c14 : w6.cell? ⟨E.bs, 14, none⟩ = some (.slice (some ⟨b14, 0, none⟩) E.n E.n) := by rw [← e14]; exact HV6.out.mi.cell rfl
                    have d14 : w6.cell? ⟨b14, v, none⟩ = some (.int .i64 (t'.low v)) := (HV6.out.cLow e14 hvn).1
                    have d14f : w6.frozen? ⟨b14, v, none⟩ = false := (HV6.out.cLow e14 hvn).2
                    have d14x : w6.cell? ⟨b14, x, none⟩ = some (.int .i64 (t'.low x)) := (HV6.out.cLow e14 hxn).1
                    have HNX : Hid (Wk E.A id f v s.tj (k + 1) = { t' with low := upd t'.low v (min (t'.low v) (t'.low x)) }) := HSU.out.trans HWS.out
                    have HH7 : Hid (HI E { s with tj := { t' with low := upd t'.low v (min (t'.low v) (t'.low x)) } } (w6.setCell ⟨b14, v, none⟩ (.int .i64 (min (t'.low v : Int) (t'.low x : Int)))).drew) := ⟨_, _, HV6.out.setLowMin e14 v (t'.low v) (t'.low x)⟩
                    clear HV6 e14 hi0
                    as_aux_lemma =>
                      go_wp2_with fail
                      go_region
                      clear c14 d14 d14f d14x
                      go_wp2_with fail
                      go_roundg ((E.A v).length - (k + 1))
                      case measure => rw [HGK.out]; omega
                      case rel => exact ⟨k + 1, rfl, by omega, by go_num, by rw [HNX.out]; exact HH7.out⟩
                  · rw [if_neg hi0] at HWS
                    have hons : t.ons x = true := (HF.out.ti.ons x).2 ((HF.out.ti.stk x).2 ⟨HPX.out, hi0⟩)
                    rw [if_pos hons] at HWS
                    have hi0' : ((t.idx x : Int) == 0) = false := by rw [beq_eq_false_iff_ne]; omega
                    obtain ⟨b15, e15⟩ := HV5.out.fx .ons rfl
                    have c15 : w5.cell? ⟨E.bs, 15, none⟩ = some (.slice (some ⟨b15, 0, none⟩) E.n E.n) := by rw [← e15]; exact HV5.out.mi.cell rfl
                    have d15 : w5.cell? ⟨b15, x, none⟩ = some (.bool true) := by rw [← hons]; exact (HV5.out.cOns e15 hxn).1
                    obtain ⟨b14, e14⟩ := HV5.out.fx .low rfl
                    have c14 : w5.cell? ⟨E.bs, 14, none⟩ = some (.slice (some ⟨b14, 0, none⟩) E.n E.n) := by rw [← e14]; exact HV5.out.mi.cell rfl
                    have d14 : w5.cell? ⟨b14, v, none⟩ = some (.int .i64 (t.low v)) := (HV5.out.cLow e14 hvn).1
                    have d14f : w5.frozen? ⟨b14, v, none⟩ = false := (HV5.out.cLow e14 hvn).2
                    have HNX : Hid (Wk E.A id f v s.tj (k + 1) = { t with low := upd t.low v (min (t.low v) (t.idx x)) }) := HSU.out.trans HWS.out
                    have HH7 : Hid (HI E { s with tj := { t with low := upd t.low v (min (t.low v) (t.idx x)) } } (w5.setCell ⟨b14, v, none⟩ (.int .i64 (min (t.low v : Int) (t.idx x : Int)))).drew) := ⟨_, _, HV5.out.setLowMin e14 v (t.low v) (t.idx x)⟩
                    clear HV5 e14 e15 hi0 hons
                    as_aux_lemma =>
                      go_wp2_with fail
                      go_region
                      clear c14 d14 d14f c13 d13 c15 d15
                      go_wp2_with fail
                      go_roundg ((E.A v).length - (k + 1))
                      case measure => rw [HGK.out]; omega
                      case rel => exact ⟨k + 1, rfl, by omega, by go_num, by rw [HNX.out]; exact HH7.out⟩
              · have hpd : (t.pof x != (id : Int)) = true := by simpa using hp
                rw [if_pos (by simpa using hp)] at HWS
                have HNX : Hid (Wk E.A id f v s.tj (k + 1) = t) := HSU.out.trans HWS.out
                clear hp
                as_aux_lemma =>
                  go_wp2_with fail
                  go_quiet (fail)
                  go_wp2_with fail
                  go_roundg ((E.A v).length - (k + 1))
                  case measure => rw [HGK.out]; omega
                  case rel => exact ⟨k + 1, rfl, by omega, by go_num, by rw [HNX.out]; exact ⟨_, _, HV4.out.drewN _⟩⟩
          · obtain rfl : k = (E.A v).length := by omega
            obtain ⟨seg, hsv, hvs⟩ := HF.out.cutStk
            have HSV : Hid (t.stk = s.tj.stk ++ v :: seg) := hsv
            have HVS : Hid (v ∉ seg) := hvs
            obtain ⟨hsl1, hsl2⟩ := HF.out.ti.stkn HW.out.Mn
            have HSN : Hid (∀ u ∈ t.stk, u < E.n) := hsl2
            have hsll : t.stk.length = s.tj.stk.length + 1 + seg.length := by rw [hsv]; simp; omega
            have hnp : t.np ≤ 1000 := by have h1 := HF.out.ti.nb; have h2 := HW.out.k; omega
            have HNP : Hid (np0 ≤ t.np) := HF.out.ti.npl
            have HWX : Hid (walkP E.A id (f + 1) v s.tj = walkX E.A v t) := HALL.out (by first | rfl | trivial)
            have HXD : Hid (walkX E.A v t = if t.low v ≠ t.idx v then t else popP E.A v t) := rfl
            clear hsl2 hsv hvs HALL HSUC HF HFA HEQ IH
            obtain ⟨b14, e14⟩ := HV4.out.fx .low rfl
            have c14 : wr.cell? ⟨E.bs, 14, none⟩ = some (.slice (some ⟨b14, 0, none⟩) E.n E.n) := by rw [← e14]; exact HV4.out.mi.cell rfl
            have d14 : wr.cell? ⟨b14, v, none⟩ = some (.int .i64 (t.low v)) := (HV4.out.cLow e14 hvn).1
            obtain ⟨b13, e13⟩ := HV4.out.fx .idx rfl
            have c13 : wr.cell? ⟨E.bs, 13, none⟩ = some (.slice (some ⟨b13, 0, none⟩) E.n E.n) := by rw [← e13]; exact HV4.out.mi.cell rfl
            have d13 : wr.cell? ⟨b13, v, none⟩ = some (.int .i64 (t.idx v)) := (HV4.out.cIdx e13 hvn).1
            as_aux_lemma =>
              by_cases hli : t.low v = t.idx v
              · have hlid : ((t.low v : Int) != (t.idx v : Int)) = false := by simp [hli]
                rw [if_neg (by simpa using hli)] at HXD
                clear hli
                as_aux_lemma =>
                  go_wp2_with fail
                  go_quiet (fail)
                  have HV5 : Hid (HV E own4 V4 { s with tj := t } (wr.drewN nq)) := HV4.out.drewN nq
                  clear HV4 c14 d14 c13 d13 e14 e13
                  generalize wr.drewN nq = w5 at *
                  obtain ⟨g16, k16, e16, hk16, hm16, hcl16⟩ := HV5.out.rowNZ (t := .stk) (l := t.stk) rfl (by omega)
                  have c16 : w5.cell? ⟨E.bs, 16, none⟩ = some (.slice (some ⟨g16, 0, none⟩) t.stk.length k16) := by rw [← e16]; exact HV5.out.mi.cell rfl
                  have f16 : w5.frozen? ⟨E.bs, 16, none⟩ = false := HV5.out.mi.frozen 16
                  have HCL : Hid (∀ i, i < t.stk.length → w5.cell? ⟨g16, i, none⟩ = some (iv (t.stk.getD i 0))) := hcl16
                  have hmm : (t.stk.length : Int) ≤ 9223372036854775807 := by omega
                  have hk16' : (t.stk.length : Int) ≤ (k16 : Int) := by omega
                  clear hcl16
                  obtain ⟨⟨Vc, hVc⟩, hMA⟩ := MemAt.cut HV5.out (mem := v :: seg) HSV.out e16
                  have HVC : Hid (HV E own4 Vc { s with tj := { t with stk := s.tj.stk } } (w5.setCell ⟨E.bs, 16, none⟩ (.slice (some ⟨g16, 0, none⟩) s.tj.stk.length k16))) := hVc
                  have HMA : Hid (MemAt E (w5.setCell ⟨E.bs, 16, none⟩ (.slice (some ⟨g16, 0, none⟩) s.tj.stk.length k16)) g16 s.tj.stk.length k16 (v :: seg)) := hMA
                  clear hVc hMA e16
                  generalize hsL : t.stk.length = sL at *
                  have HSL : Hid (t.stk.length = sL) := hsL
                  generalize hsP : s.tj.stk.length = sP at *
                  have HSP : Hid (s.tj.stk.length = sP) := hsP
                  generalize hsG : seg.length = sG at *
                  have HSG : Hid (seg.length = sG) := hsG
                  have HLL : Hid (sL = sP + 1 + sG) := hsll
                  have hPL : sP < sL := by omega
                  have hPL' : (sP : Int) ≤ (sL : Int) := by omega
                  have hsG6 : sL ≤ sP + 7 := by omega
                  clear hsL hsP hsG hsll
                  go_upto_block 3 with fail
                  go_cut [6] (fun iv' wx => iv' = iv sP ∧ w5 = wx)
                  case first =>
                    as_aux_lemma =>
                      go_wp2_with fail
                      go_loopg [6] (sL - 1) (fun gn iv' wr => ∃ i : Nat, gn = i ∧ sP ≤ i ∧ i < sL ∧ iv' = iv i ∧ w5 = wr)
                      case atStart => exact ⟨sL - 1, rfl, by omega, by omega, by go_num, rfl⟩
                      case round =>
                        obtain ⟨i, hgi, hi1, hi2, rfl, rfl⟩ := hrel
                        have HGI : Hid (gk = i) := hgi
                        have hi2' : (i : Int) < (sL : Int) := by omega
                        have hci := HCL.out i hi2
                        clear hgi
                        by_cases hip : i = sP
                        · have hiv : t.stk.getD i 0 = v := by rw [hip, HSV.out, ← HSP.out]; simp
                          rw [hiv] at hci
                          subst hip
                          go_wp2_with fail
                          go_meet
                          exact ⟨rfl, rfl⟩
                        · have hiv : t.stk.getD i 0 ≠ v := fun e => by
                            have h2 := HVS.out
                            rw [HSV.out, List.getD_eq_getElem?_getD, List.getElem?_append_right (by rw [HSP.out]; omega), HSP.out, show i - sP = (i - sP - 1) + 1 by omega, List.getElem?_cons_succ, List.getElem?_eq_getElem (by have := HLL.out; rw [HSG.out]; omega)] at e
                            exact h2 (by rw [← e]; exact List.getElem_mem _)
                          generalize t.stk.getD i 0 = y at *
                          have hyv : ((y : Int) != (v : Int)) = true := by simp; omega
                          have hi1' : (1 : Int) ≤ i := by omega
                          clear hiv
                          go_wp2_with fail
                          go_roundg (i - 1)
                          case measure => rw [HGI.out]; omega
                          case rel => exact ⟨i - 1, rfl, by omega, by omega, by go_num, rfl⟩
                  case rest =>
                    as_aux_lemma =>
                      obtain ⟨rfl, rfl⟩ := hcut
                      clear HCL
                      go_upto_region 20 with fail
                      clear c16 f16
                      generalize w5.setCell ⟨E.bs, 16, none⟩ (.slice (some ⟨g16, 0, none⟩) sP k16) = w6 at *
                      generalize hmL : sL - sP = mL at *
                      have HML : Hid (mL = (v :: seg).length) := by have h1 := HSG.out; have h2 := HLL.out; show mL = (v :: seg).length; simp; omega
                      have hmL1 : 1 ≤ mL := by omega
                      have hmL7 : mL ≤ 7 := by omega
                      clear hmL hPL hPL' hsG6 hk16 hk16' HV5
                      have c0 : w6.cell? ⟨E.bs, 0, none⟩ = some (.slice (some ⟨ga, 0, none⟩) E.n ca) := by rw [← ea]; exact HVC.out.mi.cell rfl
                      obtain ⟨a0, hSA⟩ := HAD.out _ _ _ _ HVC.out
                      have HSA : Hid (SlR w6 pA (E.A v)) := hSA
                      have HIP : Hid (isPart E.A v (v :: seg) = (decide (1 < mL) || (E.A v).contains v)) := by show isPart E.A v (v :: seg) = _; unfold isPart; rw [← HML.out]
                      have HPE : Hid (popP E.A v t = (v :: seg).foldl (markS (if isPart E.A v (v :: seg) then (t.np : Int) else -1)) { t with stk := s.tj.stk, np := if isPart E.A v (v :: seg) then t.np + 1 else t.np }) := popP_eq HSV.out HVS.out
                      clear hSA
                      generalize isPart E.A v (v :: seg) = ip at *
                      go_upto_region 21 with fail
                      go_cut [202] (fun bv wx => bv = .bool ip ∧ w6 = wx)
                      case first =>
                        as_aux_lemma =>
                          by_cases h1 : 1 < mL
                          · have h1' : (1 : Int) < (mL : Int) := by omega
                            obtain rfl : ip = true := by rw [HIP.out, decide_eq_true h1]; rfl
                            clear h1
                            go_wp2_with fail
                            go_meet
                            exact ⟨rfl, rfl⟩
                          · have h1' : ¬ (1 : Int) < (mL : Int) := by omega
                            have HCT : Hid (ip = (E.A v).contains v) := by show ip = _; rw [HIP.out, decide_eq_false h1]; rfl
                            clear h1
                            go_wp2_with fail
                            refine (contains16 pA (E.A v) cA v w6 (by unfold maxLen; omega) HSA.out).mono ?_
                            rintro e w7 ⟨rfl, rfl⟩
                            go_wp2_with fail
                            go_meet
                            exact ⟨by rw [HCT.out, List.contains_eq_mem], rfl⟩
                      case rest =>
                        as_aux_lemma =>
                          obtain ⟨rfl, rfl⟩ := hcut
                          clear c0 a0 HSA HAD HIP
                          obtain ⟨q, hq⟩ : ∃ q : Int, q = if ip then (t.np : Int) else -1 := ⟨_, rfl⟩
                          have HQ : Hid (q = if ip then (t.np : Int) else -1) := hq
                          obtain ⟨t1, ht1⟩ : ∃ t1 : Tj, t1 = { t with stk := s.tj.stk, np := if ip then t.np + 1 else t.np } := ⟨_, rfl⟩
                          have HT1 : Hid (t1 = { t with stk := s.tj.stk, np := if ip then t.np + 1 else t.np }) := ht1
                          have HPF : Hid (popP E.A v t = (v :: seg).foldl (markS q) t1) := by show popP E.A v t = _; rw [HPE.out, hq, ht1]
                          have hnp0 : 0 < t.np := by have h1 := HNP.out; have h2 := HW.out.hid; omega
                          clear hq ht1 HPE
                          go_upto_if 202 with fail
                          go_cut [8] (fun qv wx => qv = .int .i64 q ∧ ∃ own V, HV E own V { s with tj := t1 } wx ∧ MemAt E wx g16 sP k16 (v :: seg))
                          case first =>
                            as_aux_lemma =>
                              cases ip
                              · rw [if_neg (by simp)] at HQ
                                have HT2 : Hid (t1 = { t with stk := s.tj.stk }) := HT1.out
                                go_wp2_with fail
                                go_meet
                                rw [HT2.out, HQ.out]
                                exact ⟨rfl, _, _, HVC.out, HMA.out⟩
                              · rw [if_pos rfl] at HQ
                                have HT2 : Hid (t1 = { t with stk := s.tj.stk, np := t.np + 1 }) := HT1.out
                                obtain ⟨g5, k5, e5, _, _, _, _⟩ := HVC.out.prtForm hnp0
                                have c5 : w6.cell? ⟨E.bs, 5, none⟩ = some (.slice (some ⟨g5, 0, none⟩) t.np k5) := by rw [← e5]; exact HVC.out.mi.cell rfl
                                have hown : w6.ownsRow E.B 41 2 (.slice (some ⟨g5, 0, none⟩) t.np k5) t.np (prtX Vc s.loo t.np) := by rw [← e5]; exact (HVC.out.mi.row .prt _ rfl).1.owns rfl
                                have hbs6 := HVC.out.mi.sz
                                have E5 : Hid (Vc .prt = .slice (some ⟨g5, 0, none⟩) t.np k5) := e5
                                clear e5
                                obtain ⟨i41, hi41, hz41a, hz41b, hz41c⟩ := info_parts Yba.info41
                                have hown6 := hown.alloc (.cells #[.slice none 0 0, .int .i64 0] 41 (0, 0))
                                have hnew : ∀ j u, [(.slice none 0 0 : Value), .int .i64 0][j]? = some u → (w6.alloc (.cells #[.slice none 0 0, .int .i64 0] 41 (0, 0))).cell? (Addr.add ⟨w6.heap.size, 0, none⟩ j) = some u := World.news_of_block (cs := #[.slice none 0 0, .int .i64 0]) (t := 41) (fr := (0, 0)) (heap_alloc_new w6 _)
                                have hone : ∀ u ∈ [(.slice none 0 0 : Value), .int .i64 0], u.oneCell' = true := fun u hu => by
                                  rcases List.mem_cons.1 hu with rfl | hu
                                  · rfl
                                  · obtain rfl := List.mem_singleton.1 hu; rfl
                                go_wp2_with (at_builtin; refine wpList_append_lies _ rfl _ _ 27 rfl E.B 41 i41 _ 2 32 Yba.underlying27 hi41 hz41a hz41b hz41c rfl (by omega) _ t.np (prtX Vc s.loo t.np) rfl hown6 ⟨w6.heap.size, 0, none⟩ 1 1 [.slice none 0 0, .int .i64 0] rfl rfl hnew hone (by omega) (by unfold maxLen; omega) (by omega) (by simp; omega) _ rfl ?_)
                                intro g7 cap7 w7 hown7 hgr7 hat7 hlt7
                                have hgr8 : w6.grownBy w7 (Vc .prt).ownBlock := by rw [E5.out]; exact grown_trans (World.grownBy_alloc _ _ _) hgr7
                                have hst7 := HVC.out.mi.far (t := .prt) rfl hgr8
                                have c5' : w7.cell? ⟨E.bs, 5, none⟩ = some (.slice (some ⟨g5, 0, none⟩) t.np k5) := by rw [← E5.out]; simp [World.cell?, hst7, csOf]
                                have f5' : w7.frozen? ⟨E.bs, 5, none⟩ = false := by simp [World.frozen?, hst7]
                                have hfr := HP.out.fr t.np HNP.out
                                obtain ⟨own8, V8, hV8⟩ := HVC.out.pushPrt hfr.1 hfr.2 hgr8 hown7 (by rw [E5.out]; exact hat7.imp (fun h => h) (fun h => by omega))
                                have HV8 : Hid (HV E own8 V8 { s with tj := { t with stk := s.tj.stk, np := t.np + 1 } } (w7.setCell ⟨E.bs, 5, none⟩ (.slice (some ⟨g7, 0, none⟩) (t.np + 1) cap7))) := hV8
                                have HM8 : Hid (MemAt E (w7.setCell ⟨E.bs, 5, none⟩ (.slice (some ⟨g7, 0, none⟩) (t.np + 1) cap7)) g16 sP k16 (v :: seg)) := HMA.out.grow HVC.out hgr8 _
                                clear hV8 hfr hst7 hgr8 hown hown6 hnew hone hown7 hgr7 hat7 hlt7 c5
                                go_wp2_with fail
                                go_meet
                                rw [HT2.out, HQ.out]
                                exact ⟨rfl, _, _, HV8.out, HM8.out⟩
                          case rest =>
                            as_aux_lemma =>
                              obtain ⟨rfl, own8, V8, hV8, hM8⟩ := hcut
                              have HV8 : Hid (HV E own8 V8 { s with tj := t1 } wc) := hV8
                              have HM8 : Hid (MemAt E wc g16 sP k16 (v :: seg)) := hM8
                              clear hV8 hM8 HVC HMA HT1 HQ
                              go_wp2_with fail
                              go_loopg [220] mL (fun gn kv wr => ∃ k : Nat, gn = mL - k ∧ k ≤ mL ∧ kv = iv k ∧ ∃ own V, HV E own V { s with tj := Mk q (v :: seg) t1 k } wr ∧ MemAt E wr g16 sP k16 (v :: seg))
                              case atStart => exact ⟨0, rfl, Nat.zero_le _, rfl, _, _, HV8.out, HM8.out⟩
                              case round =>
                                as_aux_lemma =>
                                  clear HV8 HM8
                                  obtain ⟨k, hgk, hk, rfl, own9, V9, hV9, hM9⟩ := hrel
                                  have HGK2 : Hid (gk = mL - k) := hgk
                                  have HSUC : Hid (k < mL → Mk q (v :: seg) t1 (k + 1) = markS q (Mk q (v :: seg) t1 k) ((v :: seg).getD k 0)) := fun h => Mk_succ _ _ _ _ (by rw [← HML.out]; exact h)
                                  have HALL : Hid (k = mL → walkP E.A id (f + 1) v s.tj = Mk q (v :: seg) t1 k) := fun h => by rw [h, HML.out, Mk_all, ← HPF.out, HWX.out, HXD.out]
                                  generalize Mk q (v :: seg) t1 k = tk at *
                                  have HV9 : Hid (HV E own9 V9 { s with tj := tk } wr) := hV9
                                  have HM9 : Hid (MemAt E wr g16 sP k16 (v :: seg)) := hM9
                                  clear hgk hV9 hM9
                                  by_cases hlt : k < mL
                                  · have hlt' : (k : Int) < (mL : Int) := by omega
                                    have akk := HM9.out.2 k (by rw [← HML.out]; exact hlt)
                                    have HXm : Hid ((v :: seg).getD k 0 ∈ t.stk) := by
                                      show (v :: seg).getD k 0 ∈ t.stk
                                      rw [HSV.out, List.getD_eq_getElem?_getD, List.getElem?_eq_getElem (by rw [← HML.out]; exact hlt)]
                                      exact List.mem_append_right _ (List.getElem_mem _)
                                    have HNX : Hid (Mk q (v :: seg) t1 (k + 1) = markS q tk ((v :: seg).getD k 0)) := HSUC.out hlt
                                    generalize hxx : (v :: seg).getD k 0 = x at *
                                    clear hxx HSUC HALL
                                    have hxn : x < E.n := HSN.out x HXm.out
                                    have hxn' : (x : Int) < (E.n : Int) := by omega
                                    obtain ⟨b15, e15⟩ := HV9.out.fx .ons rfl
                                    have c15 : wr.cell? ⟨E.bs, 15, none⟩ = some (.slice (some ⟨b15, 0, none⟩) E.n E.n) := by rw [← e15]; exact HV9.out.mi.cell rfl
                                    have d15 : wr.cell? ⟨b15, x, none⟩ = some (.bool (tk.ons x)) := (HV9.out.cOns e15 hxn).1
                                    have d15f : wr.frozen? ⟨b15, x, none⟩ = false := (HV9.out.cOns e15 hxn).2
                                    have HVa : Hid (HV E own9 V9 { s with tj := { tk with ons := upd tk.ons x false } } (wr.setCell ⟨b15, x, none⟩ (.bool false))) := HV9.out.setOns e15 x false
                                    have HMa : Hid (MemAt E (wr.setCell ⟨b15, x, none⟩ (.bool false)) g16 sP k16 (v :: seg)) := HM9.out.set HV9.out (t := .ons) rfl e15 x _
                                    clear HV9 HM9
                                    go_upto_region 28 with fail
                                    clear akk c15 d15 d15f e15
                                    generalize wr.setCell ⟨b15, x, none⟩ (.bool false) = wa at *
                                    obtain ⟨b4, e4⟩ := HVa.out.fx .pof rfl
                                    have c4 : wa.cell? ⟨E.bs, 4, none⟩ = some (.slice (some ⟨b4, 0, none⟩) E.n E.n) := by rw [← e4]; exact HVa.out.mi.cell rfl
                                    have d4 : wa.cell? ⟨b4, x, none⟩ = some (.int .i64 (tk.pof x)) := (HVa.out.cPof e4 hxn).1
                                    have d4f : wa.frozen? ⟨b4, x, none⟩ = false := (HVa.out.cPof e4 hxn).2
                                    have HVb : Hid (HV E own9 V9 { s with tj := markS q tk x } (wa.setCell ⟨b4, x, none⟩ (.int .i64 q))) := HVa.out.setPof e4 x q
                                    have HMb : Hid (MemAt E (wa.setCell ⟨b4, x, none⟩ (.int .i64 q)) g16 sP k16 (v :: seg)) := HMa.out.set HVa.out (t := .pof) rfl e4 x _
                                    clear HVa HMa e4
                                    go_wp2_with fail
                                    go_roundg (mL - (k + 1))
                                    case measure => rw [HGK2.out]; omega
                                    case rel => exact ⟨k + 1, rfl, by omega, by go_num, _, _, by rw [HNX.out]; exact HVb.out, HMb.out⟩
                                  · obtain rfl : k = mL := by omega
                                    have HHE : Hid (HI E { s with tj := walkP E.A id (f + 1) v s.tj } wr) := by show HI E { s with tj := walkP E.A id (f + 1) v s.tj } wr; rw [HALL.out (by first | rfl | trivial)]; exact ⟨_, _, HV9.out⟩
                                    clear HV9 HM9
                                    go_wp2_with fail
                                    go_end0
                                    exact ⟨rfl, HHE.out⟩
              · have hlid : ((t.low v : Int) != (t.idx v : Int)) = true := by simp; omega
                rw [if_pos (by simpa using hli)] at HXD
                have HHE : Hid (∀ n, HI E { s with tj := walkP E.A id (f + 1) v s.tj } (wr.drewN n)) := fun n => by rw [HWX.out, HXD.out]; exact ⟨_, _, HV4.out.drewN n⟩
                clear hli HV4
                as_aux_lemma =>
                  go_wp2_with fail
                  go_quiet (fail)
                  go_wp2_with fail
                  refine bodyPost_ret (results_none rfl _ _ _) rfl ?_
                  exact ⟨rfl, HHE.out _⟩
end Go.Proofs.Ybulkcyk
