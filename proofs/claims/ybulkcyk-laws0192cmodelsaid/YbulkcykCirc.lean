/-
  (*search).circuit (function 15), walked.
-/
import Derived.Test.YbulkcykCircPre
import Derived.Test.YbulkcykOrder
import Derived.Deep.CutBlock
namespace Go.Proofs.Ybulkcyk
open Go.RowKit
set_option linter.unusedSimpArgs false

structure CPre (E : En) (c : Jc) (f : Nat) (path : List Nat) (v : Nat) (s : Hs) : Prop where
  pa : s.path = path
  st : s.start = (c.st : Int)
  inP : ∀ u, c.inP u = decide (s.tj.pof u = s.within)
  tos : s.tos = c.tos
  ji : JI c path s.jn
  nd : path.Nodup
  lt : ∀ u ∈ path, u < c.n
  vn : v ∉ path
  vi : c.inP v = true
  vb : s.jn.blk v = false
  fu : f + path.length = c.n + 1
  cn : 0 < cntO c path
  mo : s.out.more = false
  si : SI c.n s.jn
  nu : s.out.num ≤ 9223372036854775807
  cb : s.out.cyc.length + 7 ^ f ≤ 1000000000
structure CE (E : En) (c : Jc) : Prop where
  A : c.A = E.A
  n : c.n = E.n
  lim : c.lim = E.lim
/-- Behind k rounds of circuit's loop. -/
def Rk (c : Jc) (f : Nat) (path : List Nat) (v : Nat) (j : Jn) (o : Out) (k : Nat) : Rs := circL c f path v j o ((c.A v).take k)
structure FA (c : Jc) (f : Nat) (path : List Nat) (v : Nat) (j : Jn) (o : Out) (k : Nat) (r : Rs) : Prop where
  cl : r.o.more = false → CL c path v j ((c.A v).take k) r
  eq : r.o = ((c.A v).take k).foldl (dfsS c.A c.lim c.st f path v) o
  si : SI c.n r.j
  opn : r.j.opn = (circ0 c v j).opn
  nu : r.o.num ≤ 9223372036854775807
  cb : r.o.cyc.length ≤ o.cyc.length + k * 7 ^ f
theorem take_succ {l : List Nat} {k : Nat} (h : k < l.length) : l.take (k + 1) = l.take k ++ [l.getD k 0] := by
  rw [List.take_add_one, List.getElem?_eq_getElem h, List.getD_eq_getElem?_getD, List.getElem?_eq_getElem h]; rfl
theorem drop_cons {l : List Nat} {k : Nat} (h : k < l.length) : l.drop k = l.getD k 0 :: l.drop (k + 1) := by
  rw [List.drop_eq_getElem_cons h, List.getD_eq_getElem?_getD, List.getElem?_eq_getElem h]; rfl
theorem Rk_succ (c : Jc) (f : Nat) (path : List Nat) (v : Nat) (j : Jn) (o : Out) (k : Nat) (h : k < (c.A v).length) : Rk c f path v j o (k + 1) = circS c f path v (Rk c f path v j o k) ((c.A v).getD k 0) := by
  unfold Rk circL
  rw [take_succ h, List.foldl_append]; rfl
theorem rk_facts {E : En} {c : Jc} (H : JH c) (hn : c.n ≤ 7) {f : Nat} {path : List Nat} {v : Nat} {s : Hs} (P : CPre E c (f + 1) path v s) : ∀ k, k ≤ (c.A v).length → FA c f path v s.jn s.out k (Rk c f path v s.jn s.out k) := by
  have hvn : v < c.n := (H.inn v P.vi).2
  have hnd' : (path ++ [v]).Nodup := List.nodup_append.2 ⟨P.nd, by simp, fun a ha b hb' => by obtain rfl := List.mem_singleton.1 hb'; exact fun e => P.vn (e ▸ ha)⟩
  have hlt' : ∀ u ∈ path ++ [v], u < c.n := fun u hu => by
    rcases List.mem_append.1 hu with q | q
    · exact P.lt u q
    · obtain rfl := List.mem_singleton.1 q; exact hvn
  have hfu := P.fu
  intro k
  induction k with
  | zero => intro _; exact ⟨fun _ => cl_start H P.ji s.out P.vn P.vi P.vb, rfl, P.si.circ0 hvn, rfl, P.nu, by show s.out.cyc.length ≤ _; omega⟩
  | succ k ih =>
    intro hk
    have F := ih (by omega)
    have hw : (c.A v).getD k 0 ∈ c.A v := by
      rw [List.getD_eq_getElem?_getD, List.getElem?_eq_getElem (by omega)]; exact List.getElem_mem _
    have S := circ_step H (f := f) (j := s.jn) (o := s.out) P.vn P.vi P.cn (fun w k q Jk hw hwp hkb hq h0 => john H f (path ++ [v]) w k q Jk hnd' hlt' hw hwp hkb (by simp; omega) h0 hq) ((c.A v).getD k 0) ((c.A v).drop (k + 1)) ((c.A v).take k) (Rk c f path v s.jn s.out k) (by rw [← drop_cons (by omega), List.take_append_drop]) F.eq F.cl
    rw [Rk_succ _ _ _ _ _ _ _ (by omega)]
    rw [← take_succ (by omega)] at S
    refine ⟨S.2, S.1, ?_, ?_, ?_, ?_⟩
    · unfold circS
      repeat' split
      all_goals first | exact F.si | exact circP_SI H.lt _ _ _ _ _ (H.lt v _ hw) F.si
    · unfold circS
      repeat' split
      all_goals first | exact F.opn | exact (circP_opn _ _ _ _ _ _).trans F.opn
    · rw [S.1]; exact dfsL_num _ _ _ P.nu
    · rw [S.1]
      have h7 : ∀ v, ∀ w ∈ c.A v, w < 7 := fun v w hw => by have := H.lt v w hw; omega
      have := dfsL_len (A := c.A) (lim := c.lim) (st := c.st) (n := 7) (f := f) (path := path) (v := v) (by omega) (fun w o => dfsP_len (by omega) H.srt h7 f (path ++ [v]) w o) ((c.A v).take (k + 1)) s.out
      rw [List.length_take, Nat.min_eq_left hk] at this
      exact this
theorem Rk_more {c : Jc} {f : Nat} {path : List Nat} {v : Nat} {j : Jn} {o : Out} {k : Nat} (h : (Rk c f path v j o k).o.more = true) : circL c f path v j o (c.A v) = Rk c f path v j o k := by
  have e : circL c f path v j o (c.A v) = ((c.A v).drop k).foldl (circS c f path v) (Rk c f path v j o k) := by
    unfold Rk circL
    rw [← List.foldl_append, List.take_append_drop]
  rw [e]
  exact foldl_fix _ _ _ fun w _ => by unfold circS; rw [if_pos h]
theorem Rk_all {c : Jc} {f : Nat} {path : List Nat} {v : Nat} {j : Jn} {o : Out} : Rk c f path v j o (c.A v).length = circL c f path v j o (c.A v) := by
  unfold Rk; rw [List.take_length]

set_option maxRecDepth 10000 in
set_option maxHeartbeats 64000000 in
theorem circuit15 {E : En} (X : EH E) {c : Jc} (C : CE E c) (H : JH c) : ∀ f path v s w, HI E s w → CPre E c f path v s → Calls Yba.prog 15 #[.pointer (some ⟨E.bs, 0, none⟩), iv v] w fun e w' => e = .returned (.bool (circP c f path v s.jn s.out).found) ∧ HI E { s with jn := (circP c f path v s.jn s.out).j, out := (circP c f path v s.jn s.out).o } w' := by
  intro f
  induction f with
  | zero =>
    intro path v s w _ P
    have := nodup_len P.nd P.lt
    have := P.fu
    omega
  | succ f ih =>
    intro path v s w hHI P
    have IH : Hid (∀ path v s w, HI E s w → CPre E c f path v s → Calls Yba.prog 15 #[.pointer (some ⟨E.bs, 0, none⟩), iv v] w fun e w' => e = .returned (.bool (circP c f path v s.jn s.out).found) ∧ HI E { s with jn := (circP c f path v s.jn s.out).j, out := (circP c f path v s.jn s.out).o } w') := ih
    have HP : Hid (CPre E c (f + 1) path v s) := P
    have HX : Hid (EH E) := X
    have HC : Hid (CE E c) := C
    have HJ : Hid (JH c) := H
    have hn7 : E.n ≤ 7 := X.n7
    have hvn : v < E.n := by rw [← C.n]; exact (H.inn v P.vi).2
    have hvn' : (v : Int) < (E.n : Int) := by omega
    have HFA : Hid (∀ k, k ≤ (c.A v).length → FA c f path v s.jn s.out k (Rk c f path v s.jn s.out k)) := rk_facts H (by rw [C.n]; exact hn7) P
    have hpl : path.length ≤ 7 := by have := nodup_len P.nd P.lt; rw [C.n] at this; omega
    have hpa := P.pa
    have HEQ : Hid (circP c (f + 1) path v s.jn s.out = ⟨(circL c f path v s.jn s.out (c.A v)).found, circX c v (circE c v (circL c f path v s.jn s.out (c.A v))), (circL c f path v s.jn s.out (c.A v)).o⟩) := rfl
    obtain ⟨own, V, HV0⟩ := hHI
    clear ih P X C H
    obtain ⟨i0, hi, hz0, hz1, hz2⟩ := info_parts Yba.info3
    have c10 : w.cell? ⟨E.bs, 10, none⟩ = some (V .path) := HV0.mi.cell rfl
    have f10 : w.frozen? ⟨E.bs, 10, none⟩ = false := HV0.mi.frozen 10
    have hown : w.ownsRow E.B 3 1 (V .path) path.length (path.map iv) := by rw [← hpa]; exact (HV0.mi.row .path _ rfl).1.owns rfl
    have hbsz := HV0.mi.sz
    have hbsB := HV0.mi.bsB
    have HV1 : Hid (HV E own V s w) := HV0
    clear HV0
    generalize hpv : V .path = pv at *
    have HPV : Hid (V .path = pv) := hpv
    clear hpv
    have hown6 := hown.alloc (.cells #[iv v] 3 (0, 0))
    have hnew : ∀ j u, [iv v][j]? = some u → (w.alloc (.cells #[iv v] 3 (0, 0))).cell? (Addr.add ⟨w.heap.size, 0, none⟩ j) = some u := World.news_of_block (cs := #[iv v]) (t := 3) (fr := (0, 0)) (heap_alloc_new w _)
    have hone : ∀ u ∈ [iv v], u.oneCell' = true := fun u hu => by obtain rfl := List.mem_singleton.1 hu; rfl
    go_enter Yba.func15, Yba.ntmps15
    go_wp2_with (at_builtin; refine wpList_append_lies _ rfl _ _ 26 rfl E.B 3 i0 _ 1 8 Yba.underlying26 hi hz0 hz1 hz2 rfl (by omega) _ path.length (path.map iv) rfl hown6 ⟨w.heap.size, 0, none⟩ 1 1 [iv v] rfl rfl hnew hone (by omega) (by unfold maxLen; omega) (by omega) (by simp; omega) _ rfl ?_)
    intro g7 cap7 w7 hown7 hgr7 hat7 hlt7
    have hgr8 : w.grownBy w7 (V .path).ownBlock := by rw [HPV.out]; exact grown_trans (World.grownBy_alloc _ _ _) hgr7
    have hst7 := HV1.out.mi.far (t := .path) rfl hgr8
    have c10' : w7.cell? ⟨E.bs, 10, none⟩ = some pv := by rw [← HPV.out]; simp [World.cell?, hst7, csOf]
    have f10' : w7.frozen? ⟨E.bs, 10, none⟩ = false := by simp [World.frozen?, hst7]
    obtain ⟨own2, hV2⟩ := HV1.out.pushPath v hgr8 (by rw [hpa]; exact hown7) (by rw [HPV.out]; exact hat7.imp id (fun h => by omega))
    rw [hpa] at hV2
    have HV2 : Hid _ := hV2
    clear hV2 HV1 hown hown6 hnew hone hown7 hgr7 hat7 hlt7 hgr8 hst7 c10 f10
    go_upto_region 3 with fail
    clear c10' f10'
    generalize w7.setCell ⟨E.bs, 10, none⟩ (.slice (some ⟨g7, 0, none⟩) (path.length + 1) cap7) = w8 at *
    generalize updV V .path (.slice (some ⟨g7, 0, none⟩) (path.length + 1) cap7) = V2 at *
    obtain ⟨b8, e8⟩ := HV2.out.fx .blk rfl
    have c8 : w8.cell? ⟨E.bs, 8, none⟩ = some (.slice (some ⟨b8, 0, none⟩) E.n E.n) := by rw [← e8]; exact HV2.out.mi.cell rfl
    obtain ⟨d8, d8f⟩ := HV2.out.cBlk e8 hvn
    have HV3 : Hid (HV E own2 V2 { s with path := path ++ [v], jn := { s.jn with blk := upd s.jn.blk v true } } (w8.setCell ⟨b8, v, none⟩ (.bool true))) := HV2.out.setBlk e8 v true
    clear HV2
    go_upto_region 4 with fail
    clear c8 d8 d8f e8
    generalize w8.setCell ⟨b8, v, none⟩ (.bool true) = w9 at *
    obtain ⟨b11, e11⟩ := HV3.out.fx .tos rfl
    have c11 : w9.cell? ⟨E.bs, 11, none⟩ = some (.slice (some ⟨b11, 0, none⟩) E.n E.n) := by rw [← e11]; exact HV3.out.mi.cell rfl
    have d11 : w9.cell? ⟨b11, v, none⟩ = some (.bool (s.tos v)) := (HV3.out.cTos e11 hvn).1
    have hopn : s.jn.opn = (cntO c path : Int) := HP.out.ji.op
    have hcn := HP.out.cn
    have hcu : cntO c path ≤ 7 := by
      unfold cntO
      have h1 := List.length_filter_le (fun u => c.tos u && !path.contains u) (List.range c.n)
      rw [List.length_range] at h1
      have h2 := HC.out.n
      omega
    have ho1 : 1 ≤ s.jn.opn := by omega
    have ho7 : s.jn.opn ≤ 7 := by omega
    clear hopn hcn hcu
    have c12 : w9.cell? ⟨E.bs, 12, none⟩ = some (.int .i64 (s.jn.opn)) := HV3.out.mi.cell rfl
    have f12 : w9.frozen? ⟨E.bs, 12, none⟩ = false := HV3.out.mi.frozen 12
    have HC0 : Hid (circ0 c v s.jn = { s.jn with blk := upd s.jn.blk v true, opn := if c.tos v then s.jn.opn - 1 else s.jn.opn }) := rfl
    have hto : c.tos v = s.tos v := by rw [HP.out.tos]
    rw [hto] at HC0
    clear hto
    go_upto_if 32 with fail
    go_cut [] (fun wx => HI E { s with path := path ++ [v], jn := circ0 c v s.jn } wx)
    case first =>
      cases ht : s.tos v
      · rw [ht, if_neg (by simp)] at HC0
        rw [ht] at d11
        as_aux_lemma =>
          go_wp2_with fail
          go_meet
          rw [HC0.out]
          exact ⟨_, _, HV3.out⟩
      · rw [ht, if_pos rfl] at HC0
        rw [ht] at d11
        as_aux_lemma =>
          have HV4 : Hid (HV E own2 V2 { s with path := path ++ [v], jn := { s.jn with blk := upd s.jn.blk v true, opn := s.jn.opn - 1 } } (w9.setCell ⟨E.bs, 12, none⟩ (.int .i64 (s.jn.opn - 1)))) := HV3.out.setOpn (s.jn.opn - 1)
          go_wp2_with fail
          go_meet
          rw [HC0.out]
          exact ⟨_, _, HV4.out⟩
    case rest =>
      clear HV3 c11 d11 c12 f12 e11 HC0
      have HH0 : Hid (HI E { s with path := path ++ [v], jn := circ0 c v s.jn } wc) := hcut
      clear hcut
      obtain ⟨ga, ca, pA, cA, ea, hadj⟩ := HX.out.adj.at hvn
      have HAD : Hid (∀ own V s w, HV E own V s w → w.cell? ⟨ga, v, none⟩ = some (.slice pA (E.A v).length cA) ∧ SlR w pA (E.A v)) := hadj
      clear hadj
      have hAL : (E.A v).length ≤ 7 := by have := sorted_len (HX.out.srt v) (HX.out.lt v); omega
      have hAc : c.A v = E.A v := by rw [HC.out.A]
      have HAc : Hid (c.A v = E.A v) := hAc
      obtain ⟨own3, V3, hV3⟩ := HH0.out
      have c0 : wc.cell? ⟨E.bs, 0, none⟩ = some (.slice (some ⟨ga, 0, none⟩) E.n ca) := by rw [← ea]; exact hV3.mi.cell rfl
      have a0 := (HAD.out _ _ _ _ hV3).1
      clear hV3 hAc
      have HRL : Hid (Rk c f path v s.jn s.out (E.A v).length = circL c f path v s.jn s.out (c.A v)) := by show Rk c f path v s.jn s.out (E.A v).length = _; rw [← HAc.out]; exact Rk_all
      have HR0 : Hid (Rk c f path v s.jn s.out 0 = ⟨false, circ0 c v s.jn, s.out⟩) := rfl
      generalize hRL : circL c f path v s.jn s.out (c.A v) = RL at *
      have HRLe : Hid (circL c f path v s.jn s.out (c.A v) = RL) := hRL
      clear hRL
      go_upto_block 0 with fail
      go_cut [5] (fun fv wx => fv = .bool RL.found ∧ HI E { s with path := path ++ [v], jn := RL.j, out := RL.o } wx)
      case first =>
        go_wp2_with fail
        clear c0 a0
        go_loopg [5, 48] (E.A v).length (fun gn fv kv wr => ∃ k : Nat, gn = (E.A v).length - k ∧ k ≤ (E.A v).length ∧ fv = .bool (Rk c f path v s.jn s.out k).found ∧ kv = iv k ∧ HI E { s with path := path ++ [v], jn := (Rk c f path v s.jn s.out k).j, out := (Rk c f path v s.jn s.out k).o } wr)
        case atStart => exact ⟨0, rfl, Nat.zero_le _, by rw [HR0.out], rfl, by rw [HR0.out]; exact HH0.out⟩
        case round =>
          clear HH0 HR0
          obtain ⟨k, hgk, hk, rfl, rfl, hhi⟩ := hrel
          have HGK : Hid (gk = (E.A v).length - k) := hgk
          have HF : Hid (FA c f path v s.jn s.out k (Rk c f path v s.jn s.out k)) := HFA.out k (by rw [HAc.out]; exact hk)
          have HMR : Hid ((Rk c f path v s.jn s.out k).o.more = true → RL = Rk c f path v s.jn s.out k) := fun h => by rw [← HRLe.out]; exact Rk_more h
          have HSUC : Hid (k < (E.A v).length → Rk c f path v s.jn s.out (k + 1) = circS c f path v (Rk c f path v s.jn s.out k) ((E.A v).getD k 0)) := fun h => by rw [Rk_succ _ _ _ _ _ _ _ (by rw [HAc.out]; exact h), HAc.out]
          have HALL : Hid (k = (E.A v).length → RL = Rk c f path v s.jn s.out k) := fun h => by rw [h, HRL.out]
          generalize Rk c f path v s.jn s.out k = r at *
          obtain ⟨own4, V4, hV4⟩ := hhi
          have HV4 : Hid (HV E own4 V4 { s with path := path ++ [v], jn := r.j, out := r.o } wr) := hV4
          clear hgk hV4
          by_cases hlt : k < (E.A v).length
          · have hlt' : (k : Int) < ((E.A v).length : Int) := by omega
            obtain ⟨gA, oA, epA, hcell⟩ := (HAD.out _ _ _ _ HV4.out).2 (by omega)
            have akk := hcell k hlt
            have HXm : Hid ((E.A v).getD k 0 ∈ E.A v) := by
              show (E.A v).getD k 0 ∈ E.A v
              rw [List.getD_eq_getElem?_getD, List.getElem?_eq_getElem hlt]; exact List.getElem_mem _
            have HSU : Hid (Rk c f path v s.jn s.out (k + 1) = circS c f path v r ((E.A v).getD k 0)) := HSUC.out hlt
            clear hcell HSUC HALL
            generalize hxx : (E.A v).getD k 0 = x at *
            clear hxx
            subst epA
            have hxn : x < E.n := HX.out.lt v x HXm.out
            have hxn' : (x : Int) < (E.n : Int) := by omega
            have c19 : wr.cell? ⟨E.bs, 19, none⟩ = some (.bool r.o.more) := HV4.out.mi.cell rfl
            cases hmo : r.o.more
            · rw [hmo] at c19
              have HCL := HF.out.cl hmo
              have HPB : Hid (CL c path v s.jn ((c.A v).take k) r) := HCL
              clear HCL
              obtain ⟨b4, e4⟩ := HV4.out.fx .pof rfl
              have c4 : wr.cell? ⟨E.bs, 4, none⟩ = some (.slice (some ⟨b4, 0, none⟩) E.n E.n) := by rw [← e4]; exact HV4.out.mi.cell rfl
              have d4 : wr.cell? ⟨b4, x, none⟩ = some (.int .i64 (s.tj.pof x)) := (HV4.out.cPof e4 hxn).1
              have c7 : wr.cell? ⟨E.bs, 7, none⟩ = some (.int .i64 s.within) := HV4.out.mi.cell rfl
              have hin : c.inP x = decide (s.tj.pof x = s.within) := HP.out.inP x
              by_cases hp : s.tj.pof x = s.within
              · rw [decide_eq_true hp] at hin
                have HIN : Hid (c.inP x = true) := hin
                have HPW : Hid (s.tj.pof x = s.within) := hp
                have hpd : (s.tj.pof x != s.within) = false := by simpa using hp
                clear hin hp
                have HVR : Hid (V4 .pof = .slice (some ⟨b4, 0, none⟩) E.n E.n) := e4
                obtain ⟨p18, k18, e18⟩ : ∃ p c, V4 .cycO = .slice p r.o.cyc.length c := HV4.out.formC
                obtain ⟨g10, k10, e10, hk10, hm10, hcl10⟩ := HV4.out.rowNZ (t := .path) (l := path ++ [v]) rfl (by simp)
                have hpl1 : (path ++ [v]).length = path.length + 1 := by simp
                have HSL : Hid (SlR wr (some ⟨g10, 0, none⟩) (path ++ [v])) := fun _ => ⟨g10, 0, rfl, fun i hi => by rw [Nat.zero_add]; exact hcl10 i hi⟩
                clear hcl10
                go_wp2_with fail
                go_quiet (fail)
                have HV5 : Hid (HV E own4 V4 { s with path := path ++ [v], jn := r.j, out := r.o } (wr.drewN nq)) := HV4.out.drewN nq
                clear HV4 HSL c19 c4 d4 c7 akk
                generalize wr.drewN nq = w5 at *
                by_cases hxs : x = c.st
                · have e6 : s.start = (x : Int) := by rw [HP.out.st, hxs]
                  have HXS : Hid (x = c.st) := hxs
                  have hcx : circS c f path v r x = ⟨if (emit c.lim r.o (path ++ [v])).more then r.found else true, r.j, emit c.lim r.o (path ++ [v])⟩ := by
                    unfold circS
                    rw [if_neg (by simp [hmo]), if_neg (by simp [HIN.out]), if_pos hxs]
                  have HCX : Hid _ := hcx
                  clear hxs hcx
                  have c6 : w5.cell? ⟨E.bs, 6, none⟩ = some (.int .i64 (x : Int)) := by rw [← e6]; exact HV5.out.mi.cell rfl
                  have c18 : w5.cell? ⟨E.bs, 18, none⟩ = some (.slice p18 r.o.cyc.length k18) := by rw [← e18]; exact HV5.out.mi.cell rfl
                  have c2 : w5.cell? ⟨E.bs, 2, none⟩ = some (.int .i64 E.lim) := HV5.out.mi.cell rfl
                  have c3 : w5.cell? ⟨E.bs, 3, none⟩ = some (.int .i64 r.o.num) := HV5.out.mi.cell rfl
                  have c10 : w5.cell? ⟨E.bs, 10, none⟩ = some (.slice (some ⟨g10, 0, none⟩) (path.length + 1) k10) := by rw [← hpl1, ← e10]; exact HV5.out.mi.cell rfl
                  have HEM : Hid (emit c.lim r.o (path ++ [v]) = if (r.o.cyc.length : Int) = E.lim ∨ r.o.num < ((path.length + 1 : Nat) : Int) then { r.o with more := true } else { r.o with cyc := r.o.cyc ++ [path ++ [v]], num := r.o.num - ((path.length + 1 : Nat) : Int) }) := by show emit c.lim r.o (path ++ [v]) = _; unfold emit; rw [HC.out.lim, hpl1]
                  have hnu := HF.out.nu
                  by_cases hE : (r.o.cyc.length : Int) = E.lim ∨ r.o.num < ((path.length + 1 : Nat) : Int)
                  · rw [if_pos hE] at HEM
                    have HNX : Hid (Rk c f path v s.jn s.out (k + 1) = ⟨r.found, r.j, { r.o with more := true }⟩) := by show Rk c f path v s.jn s.out (k + 1) = _; rw [HSU.out, HCX.out, HEM.out]; rfl
                    have HGO : Hid (∀ nq1 : Nat, HI E { s with path := path ++ [v], jn := r.j, out := { r.o with more := true } } ((w5.drewN nq1).setCell ⟨E.bs, 19, none⟩ (.bool true))) := fun nq1 => ⟨_, _, (HV5.out.drewN nq1).setMore true⟩
                    have HC19 : Hid (∀ nq1 : Nat, (w5.drewN nq1).cell? ⟨E.bs, 19, none⟩ = some (.bool r.o.more) ∧ (w5.drewN nq1).frozen? ⟨E.bs, 19, none⟩ = false) := fun nq1 => ⟨(HV5.out.drewN nq1).mi.cell rfl, (HV5.out.drewN nq1).mi.frozen 19⟩
                    by_cases hE1 : (r.o.cyc.length : Int) = E.lim
                    · have hE1' : ((r.o.cyc.length : Int) == E.lim) = true := by simpa using hE1
                      clear hE hE1
                      as_aux_lemma =>
                        go_wp2_with fail
                        go_quiet (fail)
                        obtain ⟨c19, f19⟩ := HC19.out nq
                        have HG2 : Hid (HI E { s with path := path ++ [v], jn := r.j, out := { r.o with more := true } } ((w5.drewN nq).setCell ⟨E.bs, 19, none⟩ (.bool true))) := HGO.out nq
                        clear HGO HC19 c6 c18 c2 c3 c10
                        generalize w5.drewN nq = w6 at *
                        go_wp2_with fail
                        go_roundg ((E.A v).length - (k + 1))
                        case measure => rw [HGK.out]; omega
                        case rel => exact ⟨k + 1, rfl, by omega, by rw [HNX.out], by go_num, by rw [HNX.out]; exact HG2.out⟩
                    · have hE1' : ((r.o.cyc.length : Int) == E.lim) = false := by simpa using hE1
                      have hE2 : r.o.num < (path.length : Int) + 1 := by rcases hE with q | q; exact absurd q hE1; omega
                      clear hE hE1
                      as_aux_lemma =>
                        go_wp2_with fail
                        go_quiet (fail)
                        obtain ⟨c19, f19⟩ := HC19.out nq
                        have HG2 : Hid (HI E { s with path := path ++ [v], jn := r.j, out := { r.o with more := true } } ((w5.drewN nq).setCell ⟨E.bs, 19, none⟩ (.bool true))) := HGO.out nq
                        clear HGO HC19 c6 c18 c2 c3 c10
                        generalize w5.drewN nq = w6 at *
                        go_wp2_with fail
                        go_roundg ((E.A v).length - (k + 1))
                        case measure => rw [HGK.out]; omega
                        case rel => exact ⟨k + 1, rfl, by omega, by rw [HNX.out], by go_num, by rw [HNX.out]; exact HG2.out⟩
                  · rw [if_neg hE] at HEM
                    have hE1 : ((r.o.cyc.length : Int) == E.lim) = false := by simpa using fun e => hE (.inl e)
                    have hE2 : ¬ r.o.num < (path.length : Int) + 1 := fun e => hE (.inr (by omega))
                    have hE3 : decide (r.o.num < (path.length : Int) + 1) = false := decide_eq_false hE2
                    clear hE
                    go_wp2_with fail
                    go_quiet (fail)
                    have HV6 : Hid (HV E own4 V4 { s with path := path ++ [v], jn := r.j, out := r.o } (w5.drewN nq)) := HV5.out.drewN nq
                    clear HV5 c6 c18 c2 c3 c10
                    generalize w5.drewN nq = w6 at *
                    have c6 : w6.cell? ⟨E.bs, 6, none⟩ = some (.int .i64 (x : Int)) := by rw [← e6]; exact HV6.out.mi.cell rfl
                    have c18 : w6.cell? ⟨E.bs, 18, none⟩ = some (.slice p18 r.o.cyc.length k18) := by rw [← e18]; exact HV6.out.mi.cell rfl
                    have f18 : w6.frozen? ⟨E.bs, 18, none⟩ = false := HV6.out.mi.frozen 18
                    have c10 : w6.cell? ⟨E.bs, 10, none⟩ = some (.slice (some ⟨g10, 0, none⟩) (path.length + 1) k10) := by rw [← hpl1, ← e10]; exact HV6.out.mi.cell rfl
                    obtain ⟨g10', k10', e10', _, _, hcl10⟩ := HV6.out.rowNZ (t := .path) (l := path ++ [v]) rfl (by simp)
                    obtain ⟨rfl, rfl⟩ : g10 = g10' ∧ k10 = k10' := by rw [e10] at e10'; simp at e10'; exact ⟨e10'.1, e10'.2⟩
                    have HSL6 : Hid (SlR w6 (some ⟨g10, 0, none⟩) (path ++ [v])) := fun _ => ⟨g10, 0, rfl, fun i hi => by rw [Nat.zero_add]; exact hcl10 i hi⟩
                    have HCLN : Hid (∀ w', SlR w' (some ⟨g10, 0, none⟩) (path ++ [v]) → Calls Yba.prog 19 #[.slice (some ⟨g10, 0, none⟩) (path.length + 1) k10] w' fun e w2 => ∃ g cap : Nat, e = .returned (.slice (some ⟨g, 0, none⟩) (path.length + 1) cap) ∧ w2.ownsRow w'.heap.size 3 1 (.slice (some ⟨g, 0, none⟩) (path.length + 1) cap) (path.length + 1) ((path ++ [v]).map iv) ∧ Below w'.heap.size w' w2) := fun w' hs => by
                      have := clone19 (some ⟨g10, 0, none⟩) (path ++ [v]) k10 w' (by simp) (by simp; omega) hs
                      rw [hpl1] at this
                      exact this
                    clear hcl10 e10'
                    obtain ⟨i26, hi26, hz26a, hz26b, hz26c⟩ := info_parts Yba.info26
                    have hcyl : r.o.cyc.length ≤ 1000000000 := by
                      have h1 := HF.out.cb
                      have h2 := HP.out.cb
                      have h3 : k * 7 ^ f ≤ 7 * 7 ^ f := Nat.mul_le_mul_right _ (by omega)
                      have h4 : 7 ^ (f + 1) = 7 * 7 ^ f := by rw [Nat.pow_succ, Nat.mul_comm]
                      omega
                    have hbs6 := HV6.out.mi.sz
                    go_upto_region 14 with fail
                    go_cut [] (fun wx => HI E { s with path := path ++ [v], jn := r.j, out := { r.o with cyc := r.o.cyc ++ [path ++ [v]] } } wx)
                    case first =>
                      obtain ⟨T, hTd⟩ : ∃ T : World → Prop, T = fun w' => w'.cell? ⟨E.bs, 18, none⟩ = some (.slice p18 r.o.cyc.length k18) ∧ w'.cell? ⟨E.bs, 10, none⟩ = some (.slice (some ⟨g10, 0, none⟩) (path.length + 1) k10) := ⟨_, rfl⟩
                      have hTu : ∀ w', T w' → w'.cell? ⟨E.bs, 18, none⟩ = some (.slice p18 r.o.cyc.length k18) ∧ w'.cell? ⟨E.bs, 10, none⟩ = some (.slice (some ⟨g10, 0, none⟩) (path.length + 1) k10) := fun w' h => by rw [hTd] at h; exact h
                      have hTm : ∀ w', w'.cell? ⟨E.bs, 18, none⟩ = some (.slice p18 r.o.cyc.length k18) ∧ w'.cell? ⟨E.bs, 10, none⟩ = some (.slice (some ⟨g10, 0, none⟩) (path.length + 1) k10) → T w' := fun w' h => by rw [hTd]; exact h
                      have hT0 : T w6.drew := hTm _ ⟨c18, c10⟩
                      clear hTd
                      refine AnyBut.start (last := 14) (T := T) (by decide +kernel) ?_
                      refine AnyBut.take (i := 0) (v := ?av0) rfl (by decide +kernel) (by decide +kernel) (by decide +kernel) (by decide +kernel) (by decide) (fun _ _ _ h => h) (Or.inl ⟨by rfl, ?ah0⟩) (by assumption) ?ar0
                      case ah0 => (intro w8 hT8; replace hT8 := hTu w8 hT8; go_simp; try with_reducible rfl)
                      case ar0 =>
                      try simp only [Act.put, List.setIfInBounds_toArray, List.set_cons_zero, List.set_cons_succ]
                      refine AnyBut.take (i := 1) (v := ?av1) rfl (by decide +kernel) (by decide +kernel) (by decide +kernel) (by decide +kernel) (by decide) (fun _ _ _ h => h) (Or.inl ⟨by rfl, ?ah1⟩) (by assumption) ?ar1
                      case ah1 => (intro w8 hT8; replace hT8 := hTu w8 hT8; go_simp; try with_reducible rfl)
                      case ar1 =>
                      try simp only [Act.put, List.setIfInBounds_toArray, List.set_cons_zero, List.set_cons_succ]
                      refine AnyBut.take (i := 2) (v := ?av2) rfl (by decide +kernel) (by decide +kernel) (by decide +kernel) (by decide +kernel) (by decide) (fun _ _ _ h => h) (Or.inl ⟨by rfl, ?ah2⟩) (by assumption) ?ar2
                      case ah2 => (intro w8 hT8; replace hT8 := hTu w8 hT8; go_simp; try with_reducible rfl)
                      case ar2 =>
                      try simp only [Act.put, List.setIfInBounds_toArray, List.set_cons_zero, List.set_cons_succ]
                      refine AnyBut.take (i := 3) (v := ?av3) rfl (by decide +kernel) (by decide +kernel) (by decide +kernel) (by decide +kernel) (by decide) (fun _ _ _ h => h) (Or.inl ⟨by rfl, ?ah3⟩) (by assumption) ?ar3
                      case ah3 => (intro w8 hT8; replace hT8 := hTu w8 hT8; go_simp; try with_reducible rfl)
                      case ar3 =>
                      try simp only [Act.put, List.setIfInBounds_toArray, List.set_cons_zero, List.set_cons_succ]
                      refine AnyBut.take (i := 4) (v := ?av4) rfl (by decide +kernel) (by decide +kernel) (by decide +kernel) (by decide +kernel) (by decide) (fun _ _ _ h => h) (Or.inl ⟨by rfl, ?ah4⟩) (by assumption) ?ar4
                      case ah4 => (intro w8 hT8; replace hT8 := hTu w8 hT8; go_simp; try with_reducible rfl)
                      case ar4 =>
                      try simp only [Act.put, List.setIfInBounds_toArray, List.set_cons_zero, List.set_cons_succ]
                      refine AnyBut.take (i := 5) (v := ?av5) rfl (by decide +kernel) (by decide +kernel) (by decide +kernel) (by decide +kernel) (by decide) (fun _ _ _ h => h) (Or.inl ⟨by rfl, ?ah5⟩) (by assumption) ?ar5
                      case ah5 => (intro w8 hT8; replace hT8 := hTu w8 hT8; go_simp; try with_reducible rfl)
                      case ar5 =>
                      try simp only [Act.put, List.setIfInBounds_toArray, List.set_cons_zero, List.set_cons_succ]
                      refine AnyBut.take (i := 6) (v := ?av6) rfl (by decide +kernel) (by decide +kernel) (by decide +kernel) (by decide +kernel) (by decide) (fun _ _ _ h => h) (Or.inl ⟨by rfl, ?ah6⟩) (by assumption) ?ar6
                      case ah6 => (intro w8 hT8; replace hT8 := hTu w8 hT8; go_simp; try with_reducible rfl)
                      case ar6 =>
                      try simp only [Act.put, List.setIfInBounds_toArray, List.set_cons_zero, List.set_cons_succ]
                      refine AnyBut.take (i := 7) (v := ?av7) rfl (by decide +kernel) (by decide +kernel) (by decide +kernel) (by decide +kernel) (by decide) (fun _ _ _ h => h) (Or.inl ⟨by rfl, ?ah7⟩) (by assumption) ?ar7
                      case ah7 => (intro w8 hT8; replace hT8 := hTu w8 hT8; go_simp; try with_reducible rfl)
                      case ar7 =>
                      try simp only [Act.put, List.setIfInBounds_toArray, List.set_cons_zero, List.set_cons_succ]
                      refine AnyBut.take (i := 8) (v := ?av8) rfl (by decide +kernel) (by decide +kernel) (by decide +kernel) (by decide +kernel) (by decide) (fun _ _ _ h => h) (Or.inl ⟨by rfl, ?ah8⟩) (by assumption) ?ar8
                      case ah8 => (intro w8 hT8; replace hT8 := hTu w8 hT8; go_simp; try with_reducible rfl)
                      case ar8 =>
                      try simp only [Act.put, List.setIfInBounds_toArray, List.set_cons_zero, List.set_cons_succ]
                      refine AnyBut.only (i := 9) (by decide +kernel) ?_
                      refine wpOp_step rfl fun K' hK => ?_
                      have HK : Shut _ := hK
                      clear hK
                      go_simp
                      refine (HCLN.out w6.drew HSL6.out).mono ?_
                      rintro e w7 ⟨g7, cap7, rfl, ho7, hb7⟩
                      have hg7 : w6.grownBy w7 none := ⟨hb7.os, hb7.tape, hb7.output, hb7.size, fun k hk _ => hb7.block k hk⟩
                      have HV7 : Hid (HV E own4 V4 { s with path := path ++ [v], jn := r.j, out := r.o } w7) := HV6.out.grow hg7
                      have k10a : w7.cell? ⟨E.bs, 10, none⟩ = some (.slice (some ⟨g10, 0, none⟩) (path.length + 1) k10) := by rw [← hpl1, ← e10]; exact HV7.out.mi.cell rfl
                      have k18a : w7.cell? ⟨E.bs, 18, none⟩ = some (.slice p18 r.o.cyc.length k18) := by rw [← e18]; exact HV7.out.mi.cell rfl
                      have hcy : w7.ownsRow E.B 26 1 (.slice p18 r.o.cyc.length k18) r.o.cyc.length ((List.range r.o.cyc.length).map fun k => V4 (.cyc k)) := by rw [← e18]; exact (HV7.out.mi.row .cycO _ rfl).1.owns rfl
                      have hcy2 := hcy.alloc (.cells #[.slice (some ⟨g7, 0, none⟩) (path.length + 1) cap7] 26 (0, 0))
                      have HO7 : Hid (w7.ownsRow w6.heap.size 3 1 (.slice (some ⟨g7, 0, none⟩) (path.length + 1) cap7) (path.length + 1) ((path ++ [v]).map iv)) := ho7
                      have HG7 : Hid (w6.grownBy w7 none) := hg7
                      have hsz7 := hg7.size
                      clear ho7 hb7 hg7 hcy hT0
                      have hT7 : T w7 := hTm _ ⟨k18a, k10a⟩
                      refine HK.out _ _ ⟨fun _ => hT7, ?_⟩
                      clear HK
                      try simp only [Act.put, List.setIfInBounds_toArray, List.set_cons_zero, List.set_cons_succ]
                      refine AnyBut.only (i := 10) (by decide +kernel) ?_
                      refine wpOp_step rfl fun K' hK => ?_
                      have HK : Shut _ := hK
                      clear hK
                      go_simp
                      have hT8 : T (w7.alloc (.cells #[.slice (some ⟨g7, 0, none⟩) (path.length + 1) cap7] 26 (0, 0))) := hTm _ ⟨by rw [World.cell?_alloc_some _ _ _ (by rw [k18a]; rfl)]; exact k18a, by rw [World.cell?_alloc_some _ _ _ (by rw [k10a]; rfl)]; exact k10a⟩
                      refine HK.out _ _ ⟨fun _ => hT8, ?_⟩
                      clear HK
                      try simp only [Act.put, List.setIfInBounds_toArray, List.set_cons_zero, List.set_cons_succ]
                      refine AnyBut.only (i := 11) (by decide +kernel) ?_
                      refine wpOp_step rfl fun K' hK => ?_
                      have HK : Shut _ := hK
                      clear hK
                      refine step_append_lies _ (by rfl) _ _ _ (by rfl) E.B 26 i26 _ 1 24 Yba.underlying23 hi26 hz26a hz26b hz26c rfl (by omega) _ r.o.cyc.length _ (by rfl) hcy2 ⟨w7.heap.size, 0, none⟩ 1 1 [.slice (some ⟨g7, 0, none⟩) (path.length + 1) cap7] (by rfl) (by rfl) (World.news_of_block (cs := #[.slice (some ⟨g7, 0, none⟩) (path.length + 1) cap7]) (t := 26) (fr := (0, 0)) (heap_alloc_new w7 _)) (by simp [Value.oneCell']) (by omega) (by unfold maxLen; omega) (by omega) (by simp; omega) (w7.heap.size + 1) (by simp) ?_
                      intro g9 cap9 w9 hown9 hgr9 hat9 hlt9
                      have hgr9' : w7.grownBy w9 (V4 .cycO).ownBlock := by rw [e18]; exact grown_trans (World.grownBy_alloc _ _ _) hgr9
                      have hst9 := HV7.out.mi.far (t := .cycO) rfl hgr9'
                      have k10b : w9.cell? ⟨E.bs, 10, none⟩ = some (.slice (some ⟨g10, 0, none⟩) (path.length + 1) k10) := by rw [← hpl1, ← e10]; simp [World.cell?, hst9, csOf]
                      have k18b : w9.cell? ⟨E.bs, 18, none⟩ = some (.slice p18 r.o.cyc.length k18) := by rw [← e18]; simp [World.cell?, hst9, csOf]
                      have f18b : w9.frozen? ⟨E.bs, 18, none⟩ = false := by simp [World.frozen?, hst9]
                      obtain ⟨own9, V9, hV9⟩ := HV6.out.pushCyc (g0 := g7) (cap0 := cap7) HG7.out (by show w7.ownsRow E.B 3 1 (.slice (some ⟨g7, 0, none⟩) (path ++ [v]).length cap7) (path ++ [v]).length _; rw [hpl1]; exact own_base HO7.out hbs6) (HO7.out.lt g7 rfl).1 hgr9' (by show w9.ownsRow E.B 26 1 _ _ (_ ++ [.slice (some ⟨g7, 0, none⟩) (path ++ [v]).length cap7]); rw [hpl1]; exact hown9) (by rw [e18]; exact hat9.imp id (fun h => by omega))
                      have HV9 : Hid (HI E { s with path := path ++ [v], jn := r.j, out := { r.o with cyc := r.o.cyc ++ [path ++ [v]] } } (w9.setCell ⟨E.bs, 18, none⟩ (.slice (some ⟨g9, 0, none⟩) (r.o.cyc.length + 1) cap9))) := ⟨own9, V9, hV9⟩
                      clear hown9 hgr9 hat9 hlt9 hgr9' hst9 hV9 hT7 hT8 hcy2
                      have hT9 : T w9 := hTm _ ⟨k18b, k10b⟩
                      refine HK.out _ _ ⟨fun _ => hT9, ?_⟩
                      clear HK
                      try simp only [Act.put, List.setIfInBounds_toArray, List.set_cons_zero, List.set_cons_succ]
                      refine AnyBut.only (i := 12) (by decide +kernel) ?_
                      refine wpOp_step rfl fun K' hK => ?_
                      have HK : Shut _ := hK
                      clear hK
                      go_simp
                      refine HK.out _ _ ⟨fun _ => hT9, ?_⟩
                      clear HK
                      try simp only [Act.put, List.setIfInBounds_toArray, List.set_cons_zero, List.set_cons_succ]
                      refine AnyBut.only (i := 13) (by decide +kernel) ?_
                      refine wpOp_step rfl fun K' hK => ?_
                      have HK : Shut _ := hK
                      clear hK
                      go_simp
                      refine HK.out _ _ ⟨fun _ => hT9, ?_⟩
                      clear HK
                      try simp only [Act.put, List.setIfInBounds_toArray, List.set_cons_zero, List.set_cons_succ]
                      refine AnyBut.only (i := 14) (by decide +kernel) ?_
                      refine wpOp_step rfl fun K' hK => ?_
                      have HK : Shut _ := hK
                      clear hK
                      go_simp
                      refine HK.out _ _ ⟨fun h => absurd rfl h, AnyBut.done (by decide +kernel) ?_ _⟩
                      clear HK
                      go_wp2_with fail
                      go_meet
                      exact HV9.out
                    case rest =>
                      as_aux_lemma =>
                        obtain ⟨own9, V9, hV9⟩ := hcut
                        have HV9 : Hid (HV E own9 V9 { s with path := path ++ [v], jn := r.j, out := { r.o with cyc := r.o.cyc ++ [path ++ [v]] } } wc) := hV9
                        have HNX : Hid (Rk c f path v s.jn s.out (k + 1) = ⟨true, r.j, { r.o with cyc := r.o.cyc ++ [path ++ [v]], num := r.o.num - ((path.length + 1 : Nat) : Int) }⟩) := by
                          show Rk c f path v s.jn s.out (k + 1) = _
                          rw [HSU.out, HCX.out, HEM.out]
                          simp [hmo]
                        clear hV9 HV6 c6 c18 f18 c10 HSL6 HCLN e18 e10 e4 HVR
                        obtain ⟨g11, k11, e11, hk11, hm11, _⟩ := HV9.out.rowNZ (t := .path) (l := path ++ [v]) rfl (by simp)
                        have c10 : wc.cell? ⟨E.bs, 10, none⟩ = some (.slice (some ⟨g11, 0, none⟩) (path.length + 1) k11) := by rw [← hpl1, ← e11]; exact HV9.out.mi.cell rfl
                        have c3 : wc.cell? ⟨E.bs, 3, none⟩ = some (.int .i64 r.o.num) := HV9.out.mi.cell rfl
                        have f3 : wc.frozen? ⟨E.bs, 3, none⟩ = false := HV9.out.mi.frozen 3
                        have hnn : r.o.num - ((path.length : Int) + 1) = r.o.num - ((path.length + 1 : Nat) : Int) := by omega
                        have HVA : Hid (HI E { s with path := path ++ [v], jn := r.j, out := { r.o with cyc := r.o.cyc ++ [path ++ [v]], num := r.o.num - ((path.length + 1 : Nat) : Int) } } (wc.setCell ⟨E.bs, 3, none⟩ (.int .i64 (r.o.num - ((path.length : Int) + 1)))).drew) := by rw [hnn]; exact ⟨_, _, (HV9.out.setNum _).drewN 1⟩
                        clear HV9 hnn
                        go_wp2_with fail
                        go_region
                        clear c10 c3 f3
                        generalize (wc.setCell ⟨E.bs, 3, none⟩ (.int .i64 (r.o.num - ((path.length : Int) + 1)))).drew = wd at *
                        go_wp2_with fail
                        go_roundg ((E.A v).length - (k + 1))
                        case measure => rw [HGK.out]; omega
                        case rel => exact ⟨k + 1, rfl, by omega, by rw [HNX.out], by go_num, by rw [HNX.out]; exact HVA.out⟩
                · have e6 : s.start = (c.st : Int) := HP.out.st
                  have hxs' : ((x : Int) == (c.st : Int)) = false := by rw [beq_eq_false_iff_ne]; omega
                  have HXS : Hid (x ≠ c.st) := hxs
                  clear hxs
                  have c6 : w5.cell? ⟨E.bs, 6, none⟩ = some (.int .i64 (c.st : Int)) := by rw [← e6]; exact HV5.out.mi.cell rfl
                  go_wp2_with fail
                  go_quiet (fail)
                  have HV6 : Hid (HV E own4 V4 { s with path := path ++ [v], jn := r.j, out := r.o } (w5.drewN nq)) := HV5.out.drewN nq
                  clear HV5 c6
                  generalize w5.drewN nq = w6 at *
                  have c6 : w6.cell? ⟨E.bs, 6, none⟩ = some (.int .i64 (c.st : Int)) := by rw [← e6]; exact HV6.out.mi.cell rfl
                  have c12 : w6.cell? ⟨E.bs, 12, none⟩ = some (.int .i64 r.j.opn) := HV6.out.mi.cell rfl
                  obtain ⟨b8, e8⟩ := HV6.out.fx .blk rfl
                  have c8 : w6.cell? ⟨E.bs, 8, none⟩ = some (.slice (some ⟨b8, 0, none⟩) E.n E.n) := by rw [← e8]; exact HV6.out.mi.cell rfl
                  have d8 : w6.cell? ⟨b8, x, none⟩ = some (.bool (r.j.blk x)) := (HV6.out.cBlk e8 hxn).1
                  as_aux_lemma =>
                    by_cases h0 : r.j.opn = 0
                    · rw [h0] at c12
                      have HNX : Hid (Rk c f path v s.jn s.out (k + 1) = r) := by
                        show Rk c f path v s.jn s.out (k + 1) = r
                        rw [HSU.out]
                        unfold circS
                        rw [if_neg (by simp [hmo]), if_neg (by simp [HIN.out]), if_neg HXS.out, if_pos h0]
                      clear h0 d8
                      as_aux_lemma =>
                        go_wp2_with fail
                        go_roundg ((E.A v).length - (k + 1))
                        case measure => rw [HGK.out]; omega
                        case rel => exact ⟨k + 1, rfl, by omega, by rw [HNX.out], by go_num, by rw [HNX.out]; exact ⟨_, _, HV6.out⟩⟩
                    · have h0' : (r.j.opn == 0) = false := by simpa using h0
                      have H0 : Hid (r.j.opn ≠ 0) := h0
                      clear h0
                      cases hb : r.j.blk x
                      · rw [hb] at d8
                        as_aux_lemma =>
                          have HCP : Hid (CPre E c f (path ++ [v]) x { s with path := path ++ [v], jn := r.j, out := r.o }) := by
                            have P := HP.out
                            have F := HF.out
                            have C := HPB.out
                            have hop := C.ji.op
                            have h00 := H0.out
                            have hfu := P.fu
                            refine ⟨rfl, P.st, P.inP, P.tos, C.ji, List.nodup_append.2 ⟨P.nd, by simp, fun a ha b hb' => by obtain rfl := List.mem_singleton.1 hb'; exact fun e => P.vn (e ▸ ha)⟩, fun u hu => ?_, fun hm => ?_, HIN.out, hb, by rw [hpl1]; omega, by omega, hmo, F.si, F.nu, ?_⟩
                            · rcases List.mem_append.1 hu with q | q
                              · exact P.lt u q
                              · obtain rfl := List.mem_singleton.1 q; rw [HC.out.n]; exact hvn
                            · have := C.ji.pb x hm
                              rw [hb] at this; cases this
                            · show r.o.cyc.length + 7 ^ f ≤ 1000000000
                              have h1 := F.cb
                              have h2 := P.cb
                              have h3 : (k + 1) * 7 ^ f ≤ 7 * 7 ^ f := Nat.mul_le_mul_right _ (by omega)
                              have h4 : 7 ^ (f + 1) = 7 * 7 ^ f := by rw [Nat.pow_succ, Nat.mul_comm]
                              rw [Nat.add_mul] at h3
                              omega
                          have HNX : Hid (Rk c f path v s.jn s.out (k + 1) = ⟨(circP c f (path ++ [v]) x r.j r.o).found || r.found, (circP c f (path ++ [v]) x r.j r.o).j, (circP c f (path ++ [v]) x r.j r.o).o⟩) := by
                            show Rk c f path v s.jn s.out (k + 1) = _
                            rw [HSU.out]
                            unfold circS
                            rw [if_neg (by simp [hmo]), if_neg (by simp [HIN.out]), if_neg HXS.out, if_neg H0.out, if_neg (by simp [hb])]
                          go_wp2_with fail
                          refine (IH.out (path ++ [v]) x { s with path := path ++ [v], jn := r.j, out := r.o } w6 ⟨_, _, HV6.out⟩ HCP.out).mono ?_
                          rintro e w7 ⟨rfl, hh7⟩
                          have HH7 : Hid (HI E { s with path := path ++ [v], jn := (circP c f (path ++ [v]) x r.j r.o).j, out := (circP c f (path ++ [v]) x r.j r.o).o } w7) := hh7
                          dsimp only
                          clear hh7 HV6 HCP c6 c12 c8 d8
                          generalize circP c f (path ++ [v]) x r.j r.o = q at *
                          cases hq : q.found
                          · rw [hq] at HNX
                            go_wp2_with fail
                            go_roundg ((E.A v).length - (k + 1))
                            case measure => rw [HGK.out]; omega
                            case rel => exact ⟨k + 1, rfl, by omega, by rw [HNX.out]; rfl, by go_num, by rw [HNX.out]; exact HH7.out⟩
                          · rw [hq] at HNX
                            go_wp2_with fail
                            go_roundg ((E.A v).length - (k + 1))
                            case measure => rw [HGK.out]; omega
                            case rel => exact ⟨k + 1, rfl, by omega, by rw [HNX.out]; rfl, by go_num, by rw [HNX.out]; exact HH7.out⟩
                      · rw [hb] at d8
                        as_aux_lemma =>
                          have HNX : Hid (Rk c f path v s.jn s.out (k + 1) = r) := by
                            show Rk c f path v s.jn s.out (k + 1) = r
                            rw [HSU.out]
                            unfold circS
                            rw [if_neg (by simp [hmo]), if_neg (by simp [HIN.out]), if_neg HXS.out, if_neg H0.out, if_pos hb]
                          go_wp2_with fail
                          go_roundg ((E.A v).length - (k + 1))
                          case measure => rw [HGK.out]; omega
                          case rel => exact ⟨k + 1, rfl, by omega, by rw [HNX.out], by go_num, by rw [HNX.out]; exact ⟨_, _, HV6.out⟩⟩
              · rw [decide_eq_false hp] at hin
                have hpd : (s.tj.pof x != s.within) = true := by simpa using hp
                have HNX : Hid (Rk c f path v s.jn s.out (k + 1) = r) := by show Rk c f path v s.jn s.out (k + 1) = r; rw [HSU.out]; unfold circS; rw [hin]; simp
                clear hin hp
                as_aux_lemma =>
                  go_wp2_with fail
                  go_quiet (fail)
                  go_wp2_with fail
                  go_roundg ((E.A v).length - (k + 1))
                  case measure => rw [HGK.out]; omega
                  case rel => exact ⟨k + 1, rfl, by omega, by rw [HNX.out], by go_num, by rw [HNX.out]; exact ⟨_, _, HV4.out.drewN _⟩⟩
            · rw [hmo] at c19
              as_aux_lemma =>
                go_wp2_with fail
                go_meet
                rw [HMR.out hmo]
                exact ⟨rfl, _, _, HV4.out⟩
          · obtain rfl : k = (E.A v).length := by omega
            as_aux_lemma =>
              go_wp2_with fail
              go_meet
              rw [HALL.out (by first | rfl | trivial)]
              exact ⟨rfl, _, _, HV4.out⟩
      case rest =>
        obtain ⟨rfl, hhl⟩ := hcut
        have HHL : Hid (HI E { s with path := path ++ [v], jn := RL.j, out := RL.o } wc) := hhl
        have HFL : Hid (FA c f path v s.jn s.out (c.A v).length RL) := by
          have := HFA.out (c.A v).length (Nat.le_refl _)
          rw [Rk_all, HRLe.out] at this
          exact this
        clear hhl HH0 c0 a0 HR0 HRL
        have HCE : Hid (circE c v RL = if RL.found then unbP (c.n + 1) v RL.j else addAll c.inP v (c.A v) RL.j) := rfl
        generalize hfb : RL.found = fb at *
        have HFB : Hid (RL.found = fb) := hfb
        clear hfb
        have HSI : Hid (SI E.n RL.j) := by show SI E.n RL.j; rw [← HC.out.n]; exact HFL.out.si
        go_upto_if 158 with fail
        go_cut [] (fun wx => HI E { s with path := path ++ [v], jn := circE c v RL, out := RL.o } wx)
        case first =>
          cases fb
          · rw [if_neg (by simp), HAc.out] at HCE
            obtain ⟨own3, V3, hV3⟩ := HHL.out
            have c0 : wc.cell? ⟨E.bs, 0, none⟩ = some (.slice (some ⟨ga, 0, none⟩) E.n ca) := by rw [← ea]; exact hV3.mi.cell rfl
            have a0 := (HAD.out _ _ _ _ hV3).1
            clear hV3
            go_wp2_with fail
            clear c0 a0
            go_loopg [170] (E.A v).length (fun gn kv wr => ∃ k : Nat, gn = (E.A v).length - k ∧ k ≤ (E.A v).length ∧ kv = iv k ∧ HI E { s with path := path ++ [v], jn := addAll c.inP v ((E.A v).take k) RL.j, out := RL.o } wr)
            case atStart => exact ⟨0, rfl, Nat.zero_le _, rfl, HHL.out⟩
            case round =>
              clear HHL
              obtain ⟨k, hgk, hk, rfl, hhi⟩ := hrel
              have HGK : Hid (gk = (E.A v).length - k) := hgk
              obtain ⟨own4, V4, hV4⟩ := hhi
              have HV4 : Hid (HV E own4 V4 { s with path := path ++ [v], jn := addAll c.inP v ((E.A v).take k) RL.j, out := RL.o } wr) := hV4
              have HSUC : Hid (k < (E.A v).length → addAll c.inP v ((E.A v).take (k + 1)) RL.j = addS c.inP v (addAll c.inP v ((E.A v).take k) RL.j) ((E.A v).getD k 0)) := fun h => by
                unfold addAll
                rw [take_succ h, List.foldl_append]; rfl
              have HALL : Hid (k = (E.A v).length → addAll c.inP v ((E.A v).take k) RL.j = circE c v RL) := fun h => by rw [h, List.take_length, HCE.out]
              have HSJ : Hid (SI E.n (addAll c.inP v ((E.A v).take k) RL.j)) := HSI.out.add _ hvn _
              generalize addAll c.inP v ((E.A v).take k) RL.j = jk at *
              clear hgk hV4
              by_cases hlt : k < (E.A v).length
              · have hlt' : (k : Int) < ((E.A v).length : Int) := by omega
                obtain ⟨gA, oA, epA, hcell⟩ := (HAD.out _ _ _ _ HV4.out).2 (by omega)
                have akk := hcell k hlt
                have HXm : Hid ((E.A v).getD k 0 ∈ E.A v) := by
                  show (E.A v).getD k 0 ∈ E.A v
                  rw [List.getD_eq_getElem?_getD, List.getElem?_eq_getElem hlt]; exact List.getElem_mem _
                have HSU : Hid (addAll c.inP v ((E.A v).take (k + 1)) RL.j = addS c.inP v jk ((E.A v).getD k 0)) := HSUC.out hlt
                clear hcell HSUC HALL
                generalize hxx : (E.A v).getD k 0 = x at *
                clear hxx
                subst epA
                have hxn : x < E.n := HX.out.lt v x HXm.out
                have hxn' : (x : Int) < (E.n : Int) := by omega
                obtain ⟨b4, e4⟩ := HV4.out.fx .pof rfl
                have c4 : wr.cell? ⟨E.bs, 4, none⟩ = some (.slice (some ⟨b4, 0, none⟩) E.n E.n) := by rw [← e4]; exact HV4.out.mi.cell rfl
                have d4 : wr.cell? ⟨b4, x, none⟩ = some (.int .i64 (s.tj.pof x)) := (HV4.out.cPof e4 hxn).1
                have c7 : wr.cell? ⟨E.bs, 7, none⟩ = some (.int .i64 s.within) := HV4.out.mi.cell rfl
                obtain ⟨b9, e9⟩ := HV4.out.fx .blsO rfl
                have c9 : wr.cell? ⟨E.bs, 9, none⟩ = some (.slice (some ⟨b9, 0, none⟩) E.n E.n) := by rw [← e9]; exact HV4.out.mi.cell rfl
                have hRx : RwOf E.n V4 { s with path := path ++ [v], jn := jk, out := RL.o } (.bls x) = some (rowI (V4 (.bls x)) (jk.bls x)) := if_pos hxn
                obtain ⟨px, cx, ex⟩ := HV4.out.form hRx
                have d9 : wr.cell? ⟨b9, x, none⟩ = some (.slice px (jk.bls x).length cx) := by rw [← ex]; exact (HV4.out.cBls e9 hxn).1
                have hRR := (HV4.out.mi.row _ _ hRx).1
                have HSX : Hid (∀ n, SlR (wr.drewN n) px (jk.bls x)) := fun n h0 => by
                  obtain ⟨g, cap, e1, _, _, hc⟩ := HV4.out.rowNZ hRx h0
                  rw [e1] at ex
                  cases ex
                  exact ⟨g, 0, rfl, fun i hi => by rw [Nat.zero_add]; exact hc i hi⟩
                have HLX : Hid ((jk.bls x).length ≤ maxLen) := by
                  show (jk.bls x).length ≤ maxLen
                  rcases hRR.2 with ⟨_, q⟩ | ⟨_, cap, _, _, _, _, q1, q2, _⟩
                  · have q' : (jk.bls x).length = 0 := q
                    omega
                  · have q1' : (jk.bls x).length ≤ cap := q1
                    omega
                have hin : c.inP x = decide (s.tj.pof x = s.within) := HP.out.inP x
                have HAS : Hid (addS c.inP v jk x = if c.inP x && !(jk.bls x).contains v then { jk with bls := upd jk.bls x (jk.bls x ++ [v]) } else jk) := rfl
                clear hRR
                by_cases hp : s.tj.pof x = s.within
                · rw [decide_eq_true hp] at hin
                  have hpd : (s.tj.pof x == s.within) = true := by simpa using hp
                  rw [hin] at HAS
                  clear hin hp
                  cases hct : (jk.bls x).contains v
                  · rw [hct] at HAS
                    have HNX : Hid (addAll c.inP v ((E.A v).take (k + 1)) RL.j = { jk with bls := upd jk.bls x (jk.bls x ++ [v]) }) := HSU.out.trans HAS.out
                    go_wp2_with fail
                    go_quiet ((go_at_call 16; refine Calls.quiet_of_same ((contains16 px (jk.bls x) cx v _ HLX.out (HSX.out _)).mono fun _ _ h => ⟨by rw [h.1, hct], h.2.symm⟩)))
                    have HV5 : Hid (HV E own4 V4 { s with path := path ++ [v], jn := jk, out := RL.o } (wr.drewN nq)) := HV4.out.drewN nq
                    clear HV4 c4 d4 c7 c9 d9 akk HSX
                    generalize wr.drewN nq = w5 at *
                    have c9 : w5.cell? ⟨E.bs, 9, none⟩ = some (.slice (some ⟨b9, 0, none⟩) E.n E.n) := by rw [← e9]; exact HV5.out.mi.cell rfl
                    have d9 : w5.cell? ⟨b9, x, none⟩ = some (.slice px (jk.bls x).length cx) := by rw [← ex]; exact (HV5.out.cBls e9 hxn).1
                    have hcy2 := ((HV5.out.mi.row _ _ hRx).1.owns rfl).alloc (.cells #[iv v] 3 (0, 0))
                    have hbs5 := HV5.out.mi.sz
                    have hlx : (jk.bls x).length ≤ 7 := by have := HSJ.out.len x; omega
                    go_upto_region 27 with fail
                    rw [show (rowI (V4 (.bls x)) (jk.bls x)).v = .slice px (jk.bls x).length cx from ex] at hcy2
                    obtain ⟨T, hTd⟩ : ∃ T : World → Prop, T = fun w' => w'.cell? ⟨E.bs, 9, none⟩ = some (.slice (some ⟨b9, 0, none⟩) E.n E.n) ∧ w'.cell? ⟨b9, x, none⟩ = some (.slice px (jk.bls x).length cx) := ⟨_, rfl⟩
                    have hTu : ∀ w', T w' → w'.cell? ⟨E.bs, 9, none⟩ = some (.slice (some ⟨b9, 0, none⟩) E.n E.n) ∧ w'.cell? ⟨b9, x, none⟩ = some (.slice px (jk.bls x).length cx) := fun w' h => by rw [hTd] at h; exact h
                    have hTm : ∀ w', w'.cell? ⟨E.bs, 9, none⟩ = some (.slice (some ⟨b9, 0, none⟩) E.n E.n) ∧ w'.cell? ⟨b9, x, none⟩ = some (.slice px (jk.bls x).length cx) → T w' := fun w' h => by rw [hTd]; exact h
                    have hT0 : T w5.drew := hTm _ ⟨c9, d9⟩
                    clear hTd
                    refine AnyBut.start (last := 16) (T := T) (by decide +kernel) ?_
                    refine AnyBut.take (i := 0) (v := ?bv0) rfl (by decide +kernel) (by decide +kernel) (by decide +kernel) (by decide +kernel) (by decide) (fun _ _ _ h => h) (Or.inl ⟨by rfl, ?bh0⟩) (by assumption) ?br0
                    case bh0 => (intro w8 hT8; replace hT8 := hTu w8 hT8; go_simp; try with_reducible rfl)
                    case br0 =>
                    try simp only [Act.put, List.setIfInBounds_toArray, List.set_cons_zero, List.set_cons_succ]
                    refine AnyBut.take (i := 1) (v := ?bv1) rfl (by decide +kernel) (by decide +kernel) (by decide +kernel) (by decide +kernel) (by decide) (fun _ _ _ h => h) (Or.inl ⟨by rfl, ?bh1⟩) (by assumption) ?br1
                    case bh1 => (intro w8 hT8; replace hT8 := hTu w8 hT8; go_simp; try with_reducible rfl)
                    case br1 =>
                    try simp only [Act.put, List.setIfInBounds_toArray, List.set_cons_zero, List.set_cons_succ]
                    refine AnyBut.take (i := 2) (v := ?bv2) rfl (by decide +kernel) (by decide +kernel) (by decide +kernel) (by decide +kernel) (by decide) (fun _ _ _ h => h) (Or.inl ⟨by rfl, ?bh2⟩) (by assumption) ?br2
                    case bh2 => (intro w8 hT8; replace hT8 := hTu w8 hT8; go_simp; try with_reducible rfl)
                    case br2 =>
                    try simp only [Act.put, List.setIfInBounds_toArray, List.set_cons_zero, List.set_cons_succ]
                    refine AnyBut.take (i := 3) (v := ?bv3) rfl (by decide +kernel) (by decide +kernel) (by decide +kernel) (by decide +kernel) (by decide) (fun _ _ _ h => h) (Or.inl ⟨by rfl, ?bh3⟩) (by assumption) ?br3
                    case bh3 => (intro w8 hT8; replace hT8 := hTu w8 hT8; go_simp; try with_reducible rfl)
                    case br3 =>
                    try simp only [Act.put, List.setIfInBounds_toArray, List.set_cons_zero, List.set_cons_succ]
                    refine AnyBut.take (i := 4) (v := ?bv4) rfl (by decide +kernel) (by decide +kernel) (by decide +kernel) (by decide +kernel) (by decide) (fun _ _ _ h => h) (Or.inl ⟨by rfl, ?bh4⟩) (by assumption) ?br4
                    case bh4 => (intro w8 hT8; replace hT8 := hTu w8 hT8; go_simp; try with_reducible rfl)
                    case br4 =>
                    try simp only [Act.put, List.setIfInBounds_toArray, List.set_cons_zero, List.set_cons_succ]
                    refine AnyBut.take (i := 5) (v := ?bv5) rfl (by decide +kernel) (by decide +kernel) (by decide +kernel) (by decide +kernel) (by decide) (fun _ _ _ h => h) (Or.inl ⟨by rfl, ?bh5⟩) (by assumption) ?br5
                    case bh5 => (intro w8 hT8; replace hT8 := hTu w8 hT8; go_simp; try with_reducible rfl)
                    case br5 =>
                    try simp only [Act.put, List.setIfInBounds_toArray, List.set_cons_zero, List.set_cons_succ]
                    refine AnyBut.take (i := 6) (v := ?bv6) rfl (by decide +kernel) (by decide +kernel) (by decide +kernel) (by decide +kernel) (by decide) (fun _ _ _ h => h) (Or.inl ⟨by rfl, ?bh6⟩) (by assumption) ?br6
                    case bh6 => (intro w8 hT8; replace hT8 := hTu w8 hT8; go_simp; try with_reducible rfl)
                    case br6 =>
                    try simp only [Act.put, List.setIfInBounds_toArray, List.set_cons_zero, List.set_cons_succ]
                    refine AnyBut.take (i := 7) (v := ?bv7) rfl (by decide +kernel) (by decide +kernel) (by decide +kernel) (by decide +kernel) (by decide) (fun _ _ _ h => h) (Or.inl ⟨by rfl, ?bh7⟩) (by assumption) ?br7
                    case bh7 => (intro w8 hT8; replace hT8 := hTu w8 hT8; go_simp; try with_reducible rfl)
                    case br7 =>
                    try simp only [Act.put, List.setIfInBounds_toArray, List.set_cons_zero, List.set_cons_succ]
                    refine AnyBut.take (i := 8) (v := ?bv8) rfl (by decide +kernel) (by decide +kernel) (by decide +kernel) (by decide +kernel) (by decide) (fun _ _ _ h => h) (Or.inl ⟨by rfl, ?bh8⟩) (by assumption) ?br8
                    case bh8 => (intro w8 hT8; replace hT8 := hTu w8 hT8; go_simp; try with_reducible rfl)
                    case br8 =>
                    try simp only [Act.put, List.setIfInBounds_toArray, List.set_cons_zero, List.set_cons_succ]
                    refine AnyBut.take (i := 9) (v := ?bv9) rfl (by decide +kernel) (by decide +kernel) (by decide +kernel) (by decide +kernel) (by decide) (fun _ _ _ h => h) (Or.inl ⟨by rfl, ?bh9⟩) (by assumption) ?br9
                    case bh9 => (intro w8 hT8; replace hT8 := hTu w8 hT8; go_simp; try with_reducible rfl)
                    case br9 =>
                    try simp only [Act.put, List.setIfInBounds_toArray, List.set_cons_zero, List.set_cons_succ]
                    refine AnyBut.take (i := 10) (v := ?bv10) rfl (by decide +kernel) (by decide +kernel) (by decide +kernel) (by decide +kernel) (by decide) (fun _ _ _ h => h) (Or.inl ⟨by rfl, ?bh10⟩) (by assumption) ?br10
                    case bh10 => (intro w8 hT8; replace hT8 := hTu w8 hT8; go_simp; try with_reducible rfl)
                    case br10 =>
                    try simp only [Act.put, List.setIfInBounds_toArray, List.set_cons_zero, List.set_cons_succ]
                    refine AnyBut.take (i := 11) (v := ?bv11) rfl (by decide +kernel) (by decide +kernel) (by decide +kernel) (by decide +kernel) (by decide) (fun _ _ _ h => h) (Or.inl ⟨by rfl, ?bh11⟩) (by assumption) ?br11
                    case bh11 => (intro w8 hT8; replace hT8 := hTu w8 hT8; go_simp; try with_reducible rfl)
                    case br11 =>
                    try simp only [Act.put, List.setIfInBounds_toArray, List.set_cons_zero, List.set_cons_succ]
                    refine AnyBut.take (i := 12) (v := ?bv12) rfl (by decide +kernel) (by decide +kernel) (by decide +kernel) (by decide +kernel) (by decide) (fun _ _ _ h => h) (Or.inl ⟨by rfl, ?bh12⟩) (by assumption) ?br12
                    case bh12 => (intro w8 hT8; replace hT8 := hTu w8 hT8; go_simp; try with_reducible rfl)
                    case br12 =>
                    try simp only [Act.put, List.setIfInBounds_toArray, List.set_cons_zero, List.set_cons_succ]
                    refine AnyBut.only (i := 13) (by decide +kernel) ?_
                    refine wpOp_step rfl fun K' hK => ?_
                    have HK : Shut _ := hK
                    clear hK
                    go_simp
                    have hT8 : T (w5.alloc (.cells #[iv v] 3 (0, 0))).drew := hTm _ ⟨by show (w5.alloc _).cell? _ = _; rw [World.cell?_alloc_some _ _ _ (by rw [c9]; rfl)]; exact c9, by show (w5.alloc _).cell? _ = _; rw [World.cell?_alloc_some _ _ _ (by rw [d9]; rfl)]; exact d9⟩
                    refine HK.out _ _ ⟨fun _ => hT8, ?_⟩
                    clear HK
                    try simp only [Act.put, List.setIfInBounds_toArray, List.set_cons_zero, List.set_cons_succ]
                    refine AnyBut.only (i := 14) (by decide +kernel) ?_
                    refine wpOp_step rfl fun K' hK => ?_
                    have HK : Shut _ := hK
                    clear hK
                    refine step_append_lies _ (by rfl) _ _ _ (by rfl) E.B 3 i0 _ 1 8 Yba.underlying26 hi hz0 hz1 hz2 rfl (by omega) _ (jk.bls x).length ((jk.bls x).map iv) (by rfl) hcy2.drew ⟨w5.heap.size, 0, none⟩ 1 1 [iv v] (by rfl) (by rfl) (World.news_of_block (cs := #[iv v]) (t := 3) (fr := (0, 0)) (heap_alloc_new w5 _)) (by simp [Value.oneCell']) (by omega) (by unfold maxLen; omega) (by omega) (by simp; omega) (w5.heap.size + 1) (by simp) ?_
                    intro g9 cap9 w9 hown9 hgr9 hat9 hlt9
                    have hgr9' : w5.grownBy w9 (V4 (.bls x)).ownBlock := by rw [ex]; exact grown_trans (World.grownBy_alloc _ _ _) ⟨hgr9.os, hgr9.tape, hgr9.output, hgr9.size, hgr9.block⟩
                    have hst9 := HV5.out.mi.far hRx hgr9'
                    obtain ⟨own9, hV9⟩ := HV5.out.pushBls x v hxn e9 hgr9' hown9 (by rw [ex]; exact hat9.imp id (fun h => by omega))
                    have HV9 : Hid (HI E { s with path := path ++ [v], jn := { jk with bls := upd jk.bls x (jk.bls x ++ [v]) }, out := RL.o } (w9.setCell ⟨b9, x, none⟩ (.slice (some ⟨g9, 0, none⟩) ((jk.bls x).length + 1) cap9))) := ⟨own9, _, hV9⟩
                    have k9b : w9.cell? ⟨E.bs, 9, none⟩ = some (.slice (some ⟨b9, 0, none⟩) E.n E.n) := by rw [← e9]; simp [World.cell?, hst9, csOf]
                    have hR9 := HV5.out.mi.rowFar (u := .blsO) hRx rfl (by simp) hgr9'
                    have k9d : w9.cell? ⟨b9, x, none⟩ = some (.slice px (jk.bls x).length cx) := by
                      have := hR9.cell (i := x) (u := V4 (.bls x)) e9 (map_range_get _ _ _ hxn)
                      rw [ex] at this
                      simpa [rowF] using this
                    have k9f : w9.frozen? ⟨b9, x, none⟩ = false := hR9.frozen e9 x
                    clear hown9 hgr9 hat9 hlt9 hgr9' hst9 hV9 hT8 hT0 hcy2 hR9
                    have hT9 : T w9 := hTm _ ⟨k9b, k9d⟩
                    refine HK.out _ _ ⟨fun _ => hT9, ?_⟩
                    clear HK
                    try simp only [Act.put, List.setIfInBounds_toArray, List.set_cons_zero, List.set_cons_succ]
                    refine AnyBut.only (i := 15) (by decide +kernel) ?_
                    refine wpOp_step rfl fun K' hK => ?_
                    have HK : Shut _ := hK
                    clear hK
                    go_simp
                    refine HK.out _ _ ⟨fun _ => hT9, ?_⟩
                    clear HK
                    try simp only [Act.put, List.setIfInBounds_toArray, List.set_cons_zero, List.set_cons_succ]
                    refine AnyBut.only (i := 16) (by decide +kernel) ?_
                    refine wpOp_step rfl fun K' hK => ?_
                    have HK : Shut _ := hK
                    clear hK
                    go_simp
                    refine HK.out _ _ ⟨fun h => absurd rfl h, AnyBut.done (by decide +kernel) ?_ _⟩
                    clear HK k9b k9d k9f hT9 hTm hTu c9 d9 HV5
                    generalize w9.setCell ⟨b9, x, none⟩ (.slice (some ⟨g9, 0, none⟩) ((jk.bls x).length + 1) cap9) = wd at *
                    go_wp2_with fail
                    go_roundg ((E.A v).length - (k + 1))
                    case measure => rw [HGK.out]; omega
                    case rel => exact ⟨k + 1, rfl, by omega, by go_num, by rw [HNX.out]; exact HV9.out⟩
                  · rw [hct] at HAS
                    have HNX : Hid (addAll c.inP v ((E.A v).take (k + 1)) RL.j = jk) := HSU.out.trans HAS.out
                    as_aux_lemma =>
                      go_wp2_with fail
                      go_quiet ((go_at_call 16; refine Calls.quiet_of_same ((contains16 px (jk.bls x) cx v _ HLX.out (HSX.out _)).mono fun _ _ h => ⟨by rw [h.1, hct], h.2.symm⟩)))
                      go_wp2_with fail
                      go_roundg ((E.A v).length - (k + 1))
                      case measure => rw [HGK.out]; omega
                      case rel => exact ⟨k + 1, rfl, by omega, by go_num, by rw [HNX.out]; exact ⟨_, _, HV4.out.drewN _⟩⟩
                · rw [decide_eq_false hp] at hin
                  have hpd : (s.tj.pof x == s.within) = false := by simpa using hp
                  rw [hin] at HAS
                  have HNX : Hid (addAll c.inP v ((E.A v).take (k + 1)) RL.j = jk) := HSU.out.trans HAS.out
                  clear hin hp
                  as_aux_lemma =>
                    go_wp2_with fail
                    go_quiet (fail)
                    go_wp2_with fail
                    go_roundg ((E.A v).length - (k + 1))
                    case measure => rw [HGK.out]; omega
                    case rel => exact ⟨k + 1, rfl, by omega, by go_num, by rw [HNX.out]; exact ⟨_, _, HV4.out.drewN _⟩⟩
              · obtain rfl : k = (E.A v).length := by omega
                as_aux_lemma =>
                  go_wp2_with fail
                  go_meet
                  rw [← HALL.out (by first | rfl | trivial)]
                  exact ⟨_, _, HV4.out⟩
          · rw [if_pos rfl, HC.out.n] at HCE
            as_aux_lemma =>
              go_wp2_with fail
              refine (unblock20 E (E.n + 1) v { s with path := path ++ [v], jn := RL.j, out := RL.o } wc HHL.out hvn (HSI.out.fuel v) HSI.out.l).mono ?_
              rintro e w2 ⟨rfl, hh2⟩
              have HH2 : Hid (HI E { s with path := path ++ [v], jn := circE c v RL, out := RL.o } w2) := by show HI E { s with path := path ++ [v], jn := circE c v RL, out := RL.o } w2; rw [HCE.out]; exact hh2
              clear hh2 HHL
              go_wp2_with fail
              go_meet
              exact HH2.out
        case rest =>
          as_aux_lemma =>
            have HHE : Hid (HI E { s with path := path ++ [v], jn := circE c v RL, out := RL.o } wc) := hcut
            clear hcut HHL
            have HOE : Hid ((circE c v RL).opn = (circ0 c v s.jn).opn) := (circE_opn c v RL).trans HFL.out.opn
            have hto : c.tos v = s.tos v := by rw [HP.out.tos]
            have HO0 : Hid ((circ0 c v s.jn).opn = if c.tos v then s.jn.opn - 1 else s.jn.opn) := rfl
            have HXE : Hid (circX c v (circE c v RL) = { circE c v RL with opn := if c.tos v then (circE c v RL).opn + 1 else (circE c v RL).opn }) := rfl
            rw [hto] at HO0 HXE
            clear hto
            obtain ⟨own3, V3, hV3⟩ := HHE.out
            have HV3 : Hid (HV E own3 V3 { s with path := path ++ [v], jn := circE c v RL, out := RL.o } wc) := hV3
            have hoe : 0 ≤ (circE c v RL).opn ∧ (circE c v RL).opn ≤ 7 := by rw [HOE.out, HO0.out]; split <;> omega
            obtain ⟨hoe0, hoe7⟩ := hoe
            clear hV3 HHE
            generalize hjE : circE c v RL = jE at *
            have HJE : Hid (circE c v RL = jE) := hjE
            clear hjE
            obtain ⟨b11, e11⟩ := HV3.out.fx .tos rfl
            have c11 : wc.cell? ⟨E.bs, 11, none⟩ = some (.slice (some ⟨b11, 0, none⟩) E.n E.n) := by rw [← e11]; exact HV3.out.mi.cell rfl
            have d11 : wc.cell? ⟨b11, v, none⟩ = some (.bool (s.tos v)) := (HV3.out.cTos e11 hvn).1
            have c12 : wc.cell? ⟨E.bs, 12, none⟩ = some (.int .i64 jE.opn) := HV3.out.mi.cell rfl
            have f12 : wc.frozen? ⟨E.bs, 12, none⟩ = false := HV3.out.mi.frozen 12
            go_upto_if 221 with fail
            go_cut [] (fun wx => HI E { s with path := path ++ [v], jn := circX c v jE, out := RL.o } wx)
            case first =>
              cases ht : s.tos v
              · rw [ht, if_neg (by simp)] at HXE
                rw [ht] at d11
                as_aux_lemma =>
                  go_wp2_with fail
                  go_meet
                  rw [HXE.out]
                  exact ⟨_, _, HV3.out⟩
              · rw [ht, if_pos rfl] at HXE
                rw [ht] at d11
                as_aux_lemma =>
                  have HV4 : Hid (HV E own3 V3 { s with path := path ++ [v], jn := { jE with opn := jE.opn + 1 }, out := RL.o } (wc.setCell ⟨E.bs, 12, none⟩ (.int .i64 (jE.opn + 1)))) := HV3.out.setOpn (jE.opn + 1)
                  go_wp2_with fail
                  go_meet
                  rw [HXE.out]
                  exact ⟨_, _, HV4.out⟩
            case rest =>
              as_aux_lemma =>
                clear HV3 c11 d11 c12 f12 e11 HXE
                obtain ⟨own5, V5, hV5⟩ := hcut
                have HV5 : Hid (HV E own5 V5 { s with path := path ++ [v], jn := circX c v jE, out := RL.o } wc) := hV5
                clear hV5
                obtain ⟨g10, k10, e10, hk10, hm10, _⟩ := HV5.out.rowNZ (t := .path) (l := path ++ [v]) rfl (by simp)
                have hpl1 : (path ++ [v]).length = path.length + 1 := by simp
                have c10 : wc.cell? ⟨E.bs, 10, none⟩ = some (.slice (some ⟨g10, 0, none⟩) (path.length + 1) k10) := by rw [← hpl1, ← e10]; exact HV5.out.mi.cell rfl
                have f10 : wc.frozen? ⟨E.bs, 10, none⟩ = false := HV5.out.mi.frozen 10
                have hk10' : ((path.length : Int) + 1) ≤ (k10 : Int) := by rw [hpl1] at hk10; omega
                have HV6 : Hid (HI E { s with jn := circX c v jE, out := RL.o } (wc.setCell ⟨E.bs, 10, none⟩ (.slice (some ⟨g10, 0, none⟩) path.length k10)).drew) := by
                  have h := (HV5.out.popPath e10 path.length (by show path.length ≤ (path ++ [v]).length; omega)).drewN 1
                  rw [show (path ++ [v]).take path.length = s.path by rw [hpa]; simp] at h
                  exact ⟨_, _, h⟩
                clear HV5
                go_wp2_with fail
                go_region
                clear c10 f10
                generalize (wc.setCell ⟨E.bs, 10, none⟩ (.slice (some ⟨g10, 0, none⟩) path.length k10)).drew = wd at *
                go_wp2_with fail
                go_ret
                rw [HEQ.out]
                exact ⟨rfl, HV6.out⟩
end Go.Proofs.Ybulkcyk
