/-
  (*zzs0192cmodel).dfs (function 7), walked.
-/
import Derived.Test.YbulkcykDfsPre
import Derived.Test.YbulkcykOrder
namespace Go.Proofs.Ybulkcyk
open Go.RowKit
set_option linter.unusedSimpArgs false

set_option maxRecDepth 10000 in
set_option maxHeartbeats 16000000 in
theorem dfs7 {D : Dn} (X : DH D) (st : Nat) : ∀ f path v s w, DI D s w → DPre D st f path v s → Calls Yba.prog 7 #[.pointer (some ⟨D.bs, 0, none⟩), iv v] w fun e w' => e = .returned (.tuple #[]) ∧ DI D { s with out := dfsP D.A D.lim st f path v s.out } w' := by
  intro f
  induction f with
  | zero =>
    intro path v s w _ P
    have := nodup_len P.nd P.lt
    have := P.fu
    omega
  | succ f ih =>
    intro path v s w hDI P
    have IH : Hid (∀ path v s w, DI D s w → DPre D st f path v s → Calls Yba.prog 7 #[.pointer (some ⟨D.bs, 0, none⟩), iv v] w fun e w' => e = .returned (.tuple #[]) ∧ DI D { s with out := dfsP D.A D.lim st f path v s.out } w') := ih
    have HP : Hid (DPre D st (f + 1) path v s) := P
    have HX : Hid (DH D) := X
    have hn7 : D.n ≤ 7 := X.n7
    have hvn : v < D.n := P.vl
    have hvn' : (v : Int) < (D.n : Int) := by omega
    have hpl : path.length ≤ 7 := by have := nodup_len P.nd P.lt; omega
    have hpa := P.pa
    have hst := P.st
    have HFA : Hid (∀ k, k ≤ (D.A v).length → (Dk D.A D.lim st f path v s.out k).num ≤ 9223372036854775807 ∧ (Dk D.A D.lim st f path v s.out k).cyc.length ≤ s.out.cyc.length + k * 7 ^ f) := dk_facts X P
    obtain ⟨own, V, HV0⟩ := hDI
    obtain ⟨i0, hi, hz0, hz1, hz2⟩ := info_parts Yba.info3
    have c10 : w.cell? ⟨D.bs, 2, none⟩ = some (V .path) := HV0.cell rfl
    have hown : w.ownsRow D.B 3 1 (V .path) path.length (path.map iv) := by rw [← hpa]; exact (HV0.mi.row .path _ rfl).1.owns rfl
    have hbsz := HV0.mi.sz
    have hbsB := HV0.mi.bsB
    have HV1 : Hid (DV D own V s w) := HV0
    clear HV0 ih P X
    generalize hpv : V .path = pv at *
    have HPV : Hid (V .path = pv) := hpv
    clear hpv
    have hown6 := hown.alloc (.cells #[iv v] 3 (0, 0))
    have hnew : ∀ j u, [iv v][j]? = some u → (w.alloc (.cells #[iv v] 3 (0, 0))).cell? (Addr.add ⟨w.heap.size, 0, none⟩ j) = some u := World.news_of_block (cs := #[iv v]) (t := 3) (fr := (0, 0)) (heap_alloc_new w _)
    have hone : ∀ u ∈ [iv v], u.oneCell' = true := fun u hu => by obtain rfl := List.mem_singleton.1 hu; rfl
    go_enter Yba.func7, Yba.ntmps7
    go_wp2_with (at_builtin; refine wpList_append_lies _ rfl _ _ 26 rfl D.B 3 i0 _ 1 8 Yba.underlying26 hi hz0 hz1 hz2 rfl (by omega) _ path.length (path.map iv) rfl hown6 ⟨w.heap.size, 0, none⟩ 1 1 [iv v] rfl rfl hnew hone (by omega) (by unfold maxLen; omega) (by omega) (by simp; omega) _ rfl ?_)
    intro g7 cap7 w7 hown7 hgr7 hat7 hlt7
    have hgr8 : w.grownBy w7 (V .path).ownBlock := by rw [HPV.out]; exact grown_trans (World.grownBy_alloc _ _ _) hgr7
    obtain ⟨c10', f10'⟩ := HV1.out.far (t := .path) (by simp) rfl hgr8 (k := 2) (x := V .path) rfl
    rw [HPV.out] at c10'
    obtain ⟨own2, hV2⟩ := HV1.out.pushPath v hgr8 (by rw [hpa]; exact hown7) (by rw [HPV.out]; exact hat7.imp id (fun h => by omega))
    rw [hpa] at hV2
    have HV2 : Hid (DI D { s with path := path ++ [v] } (w7.setCell ⟨D.bs, 2, none⟩ (.slice (some ⟨g7, 0, none⟩) (path.length + 1) cap7))) := ⟨_, _, hV2⟩
    clear hV2 HV1 hown hown6 hnew hone hown7 hgr7 hat7 hlt7 hgr8 c10
    go_upto_region 1 with fail
    clear c10' f10'
    generalize w7.setCell ⟨D.bs, 2, none⟩ (.slice (some ⟨g7, 0, none⟩) (path.length + 1) cap7) = w8 at *
    obtain ⟨ga, ca, pA, cA, ea, hadj⟩ := HX.out.adj.atD hvn
    have HAD : Hid (∀ own V s w, DV D own V s w → w.cell? ⟨ga, v, none⟩ = some (.slice pA (D.A v).length cA) ∧ SlR w pA (D.A v)) := hadj
    clear hadj
    have hAL : (D.A v).length ≤ 7 := by have := sorted_len (HX.out.srt v) (HX.out.lt v); omega
    have c0 : w8.cell? ⟨D.bs, 0, none⟩ = some (.slice (some ⟨ga, 0, none⟩) D.n ca) := by obtain ⟨a, b, h⟩ := HV2.out; rw [← ea]; exact h.cell rfl
    have a0 : w8.cell? ⟨ga, v, none⟩ = some (.slice pA (D.A v).length cA) := by obtain ⟨a, b, h⟩ := HV2.out; exact (HAD.out _ _ _ _ h).1
    have HD0 : Hid (Dk D.A D.lim st f path v s.out 0 = s.out) := rfl
    have HDA : Hid (Dk D.A D.lim st f path v s.out (D.A v).length = dfsP D.A D.lim st (f + 1) path v s.out) := Dk_all _ _ _ _ _ _ _
    go_upto_block 0 with fail
    clear c0 a0
    go_cut [] (fun wx => DI D { s with path := path ++ [v], out := dfsP D.A D.lim st (f + 1) path v s.out } wx)
    case first =>
      go_wp2_with fail
      go_loopg [24] (D.A v).length (fun gn kv wr => ∃ k : Nat, gn = (D.A v).length - k ∧ k ≤ (D.A v).length ∧ kv = iv k ∧ DI D { s with path := path ++ [v], out := Dk D.A D.lim st f path v s.out k } wr)
      case atStart => exact ⟨0, rfl, Nat.zero_le _, rfl, by rw [HD0.out]; exact HV2.out⟩
      case round =>
        clear HV2 HD0
        obtain ⟨k, hgk, hk, rfl, own4, V4, hV4⟩ := hrel
        have HGK : Hid (gk = (D.A v).length - k) := hgk
        have HF := HFA.out k hk
        have HMR : Hid ((Dk D.A D.lim st f path v s.out k).more = true → dfsP D.A D.lim st (f + 1) path v s.out = Dk D.A D.lim st f path v s.out k) := fun h => Dk_more h
        have HSUC : Hid (k < (D.A v).length → Dk D.A D.lim st f path v s.out (k + 1) = dfsS D.A D.lim st f path v (Dk D.A D.lim st f path v s.out k) ((D.A v).getD k 0)) := fun h => Dk_succ _ _ _ _ _ _ _ _ h
        have HALL : Hid (k = (D.A v).length → dfsP D.A D.lim st (f + 1) path v s.out = Dk D.A D.lim st f path v s.out k) := fun h => by rw [h]; exact HDA.out.symm
        have HRK : Hid (Dk D.A D.lim st f path v s.out k = Dk D.A D.lim st f path v s.out k) := rfl
        generalize hrr : Dk D.A D.lim st f path v s.out k = r at *
        have HRE : Hid (r = Dk D.A D.lim st f path v s.out k) := hrr.symm
        obtain ⟨hrn, hrc⟩ := HF
        have HRC : Hid (r.cyc.length ≤ s.out.cyc.length + k * 7 ^ f) := hrc
        have HV4 : Hid (DV D own4 V4 { s with path := path ++ [v], out := r } wr) := hV4
        clear hgk hV4 HRK hrc hrr
        by_cases hlt : k < (D.A v).length
        · have hlt' : (k : Int) < ((D.A v).length : Int) := by omega
          obtain ⟨gA, oA, epA, hcell⟩ := (HAD.out _ _ _ _ HV4.out).2 (by omega)
          have akk := hcell k hlt
          have HXm : Hid ((D.A v).getD k 0 ∈ D.A v) := by
            show (D.A v).getD k 0 ∈ D.A v
            rw [List.getD_eq_getElem?_getD, List.getElem?_eq_getElem hlt]; exact List.getElem_mem _
          have HSU : Hid (Dk D.A D.lim st f path v s.out (k + 1) = dfsS D.A D.lim st f path v r ((D.A v).getD k 0)) := HSUC.out hlt
          clear hcell HSUC HALL
          generalize hxx : (D.A v).getD k 0 = x at *
          clear hxx
          subst epA
          have hxn : x < D.n := HX.out.lt v x HXm.out
          have hxn' : (x : Int) < (D.n : Int) := by omega
          have HDS : Hid (dfsS D.A D.lim st f path v r x = if r.more then r else if x = st then emit D.lim r (path ++ [v]) else if st < x ∧ ¬ (path ++ [v]).contains x then dfsP D.A D.lim st f (path ++ [v]) x r else r) := rfl
          have c5 : wr.cell? ⟨D.bs, 5, none⟩ = some (.bool r.more) := HV4.out.cell rfl
          have hpl1 : (path ++ [v]).length = path.length + 1 := by simp
          cases hmo : r.more
          · rw [hmo] at c5
            rw [hmo, if_neg (by simp)] at HDS
            by_cases hxs : x = st
            · rw [if_pos hxs] at HDS
              have c1 : wr.cell? ⟨D.bs, 1, none⟩ = some (iv x) := by rw [hxs, show (iv st : Value) = .int .i64 s.start by rw [hst]]; exact HV4.out.cell rfl
              obtain ⟨g10, k10, e10, hk10, hm10, hcl10⟩ := HV4.out.rowNZ (by simp)
              have e10' : V4 .path = .slice (some ⟨g10, 0, none⟩) (path.length + 1) k10 := by rw [← hpl1]; exact e10
              have E10 : Hid (V4 .path = .slice (some ⟨g10, 0, none⟩) (path.length + 1) k10) := e10'
              obtain ⟨p18, k18, e18⟩ := HV4.out.formC
              have E18 : Hid (V4 .cycO = .slice p18 r.cyc.length k18) := e18
              have HCL10 : Hid (∀ i, i < path.length + 1 → wr.cell? ⟨g10, i, none⟩ = some (iv ((path ++ [v]).getD i 0))) := fun i hi => hcl10 i (by rw [hpl1]; exact hi)
              have c4 : wr.cell? ⟨D.bs, 4, none⟩ = some (.slice p18 r.cyc.length k18) := by rw [← E18.out]; exact HV4.out.cell rfl
              have c6 : wr.cell? ⟨D.bs, 6, none⟩ = some (.int .i64 D.lim) := HV4.out.cell rfl
              have c7 : wr.cell? ⟨D.bs, 7, none⟩ = some (.int .i64 r.num) := HV4.out.cell rfl
              have c2 : wr.cell? ⟨D.bs, 2, none⟩ = some (.slice (some ⟨g10, 0, none⟩) (path.length + 1) k10) := by rw [← E10.out]; exact HV4.out.cell rfl
              have HEM : Hid (emit D.lim r (path ++ [v]) = if (r.cyc.length : Int) = D.lim ∨ r.num < ((path.length + 1 : Nat) : Int) then { r with more := true } else { r with cyc := r.cyc ++ [path ++ [v]], num := r.num - ((path.length + 1 : Nat) : Int) }) := by show emit D.lim r (path ++ [v]) = _; unfold emit; rw [hpl1]
              clear hcl10 e10 e10' e18 hxs
              by_cases hE : (r.cyc.length : Int) = D.lim ∨ r.num < ((path.length + 1 : Nat) : Int)
              · rw [if_pos hE] at HEM
                have HNX : Hid (Dk D.A D.lim st f path v s.out (k + 1) = { r with more := true }) := HSU.out.trans (HDS.out.trans HEM.out)
                have HGO : Hid (∀ nq1 : Nat, DI D { s with path := path ++ [v], out := { r with more := true } } ((wr.drewN nq1).setCell ⟨D.bs, 5, none⟩ (.bool true))) := fun nq1 => ⟨_, _, (HV4.out.drewN nq1).setMore true⟩
                have HC5 : Hid (∀ nq1 : Nat, (wr.drewN nq1).cell? ⟨D.bs, 5, none⟩ = some (.bool r.more) ∧ (wr.drewN nq1).frozen? ⟨D.bs, 5, none⟩ = false) := fun nq1 => ⟨(HV4.out.drewN nq1).cell rfl, (HV4.out.drewN nq1).frozen 5⟩
                by_cases hE1 : (r.cyc.length : Int) = D.lim
                · have hE1' : ((r.cyc.length : Int) == D.lim) = true := by simpa using hE1
                  clear hE hE1
                  as_aux_lemma =>
                    go_wp2_with fail
                    go_quiet (fail)
                    obtain ⟨c19, f19⟩ := HC5.out nq
                    have HG2 : Hid (DI D { s with path := path ++ [v], out := { r with more := true } } ((wr.drewN nq).setCell ⟨D.bs, 5, none⟩ (.bool true))) := HGO.out nq
                    clear HGO HC5 c5 c1 c4 c6 c7 c2 akk
                    go_wp2_with fail
                    go_roundg ((D.A v).length - (k + 1))
                    case measure => rw [HGK.out]; omega
                    case rel => exact ⟨k + 1, rfl, by omega, by go_num, by rw [HNX.out]; exact HG2.out⟩
                · have hE1' : ((r.cyc.length : Int) == D.lim) = false := by simpa using hE1
                  have hE2 : r.num < (path.length : Int) + 1 := by rcases hE with q | q; exact absurd q hE1; omega
                  clear hE hE1
                  as_aux_lemma =>
                    go_wp2_with fail
                    go_quiet (fail)
                    obtain ⟨c19, f19⟩ := HC5.out nq
                    have HG2 : Hid (DI D { s with path := path ++ [v], out := { r with more := true } } ((wr.drewN nq).setCell ⟨D.bs, 5, none⟩ (.bool true))) := HGO.out nq
                    clear HGO HC5 c5 c1 c4 c6 c7 c2 akk
                    go_wp2_with fail
                    go_roundg ((D.A v).length - (k + 1))
                    case measure => rw [HGK.out]; omega
                    case rel => exact ⟨k + 1, rfl, by omega, by go_num, by rw [HNX.out]; exact HG2.out⟩
              · rw [if_neg hE] at HEM
                have hE1 : ((r.cyc.length : Int) == D.lim) = false := by simpa using fun e => hE (.inl e)
                have hE2 : ¬ r.num < (path.length : Int) + 1 := fun e => hE (.inr (by omega))
                have hE3 : decide (r.num < (path.length : Int) + 1) = false := decide_eq_false hE2
                have HNX : Hid (Dk D.A D.lim st f path v s.out (k + 1) = { r with cyc := r.cyc ++ [path ++ [v]], num := r.num - ((path.length + 1 : Nat) : Int) }) := HSU.out.trans (HDS.out.trans HEM.out)
                clear hE
                have HV5 : Hid (∀ nq1, DV D own4 V4 { s with path := path ++ [v], out := r } (wr.drewN nq1)) := fun nq1 => HV4.out.drewN nq1
                have HSL : Hid (∀ nq1 i, i < path.length + 1 → (wr.drewN nq1).cell? ⟨g10, i, none⟩ = some (iv ((path ++ [v]).getD i 0))) := fun _ => HCL10.out
                go_wp2_with fail
                go_quiet (fail)
                have HV6 : Hid (DV D own4 V4 { s with path := path ++ [v], out := r } (wr.drewN nq)) := HV5.out nq
                have HSL6 : Hid (∀ i, i < path.length + 1 → (wr.drewN nq).cell? ⟨g10, i, none⟩ = some (iv ((path ++ [v]).getD i 0))) := HSL.out nq
                clear HV5 HSL HCL10 HV4 c5 c1 c4 c6 c7 c2 akk
                generalize wr.drewN nq = w6 at *
                have c18 : w6.cell? ⟨D.bs, 4, none⟩ = some (.slice p18 r.cyc.length k18) := by rw [← E18.out]; exact HV6.out.cell rfl
                have f18 : w6.frozen? ⟨D.bs, 4, none⟩ = false := HV6.out.frozen 4
                have c10 : w6.cell? ⟨D.bs, 2, none⟩ = some (.slice (some ⟨g10, 0, none⟩) (path.length + 1) k10) := by rw [← E10.out]; exact HV6.out.cell rfl
                obtain ⟨i26, hi26, hz26a, hz26b, hz26c⟩ := info_parts Yba.info26
                have hcyl : r.cyc.length ≤ 1000000000 := by
                  have h1 := HRC.out
                  have h2 := HP.out.cb
                  have h3 : k * 7 ^ f ≤ 7 * 7 ^ f := Nat.mul_le_mul_right _ (by omega)
                  have h4 : 7 ^ (f + 1) = 7 * 7 ^ f := by rw [Nat.pow_succ, Nat.mul_comm]
                  omega
                have hbs6 := HV6.out.mi.sz
                have hnil : w6.drew.ownsRow D.B 3 1 (.slice none 0 0) 0 [] := ⟨rfl, .inl ⟨rfl, rfl⟩⟩
                have hnews : ∀ j u, ((path ++ [v]).map iv)[j]? = some u → w6.drew.cell? (Addr.add ⟨g10, 0, none⟩ j) = some u := fun j u hu => by
                  rw [List.getElem?_map] at hu
                  have hj : j < (path ++ [v]).length := by
                    rcases Nat.lt_or_ge j (path ++ [v]).length with q | q
                    · exact q
                    · rw [List.getElem?_eq_none q] at hu; cases hu
                  have h := HSL6.out j (by rw [← hpl1]; exact hj)
                  rw [List.getD_eq_getElem?_getD, List.getElem?_eq_getElem hj] at h
                  rw [List.getElem?_eq_getElem hj] at hu
                  have ha : Addr.add ⟨g10, 0, none⟩ j = ⟨g10, j, none⟩ := by
                    unfold Addr.add
                    split
                    · rename_i h; subst h; rfl
                    · simp
                  rw [ha]
                  show w6.cell? _ = _
                  rw [h, ← hu]
                  rfl
                have hones : ∀ u ∈ (path ++ [v]).map iv, u.oneCell' = true := fun u hu => by
                  obtain ⟨z, _, rfl⟩ := List.mem_map.1 hu
                  rfl
                have hnl : ((path ++ [v]).map iv).length = (path.length + 1) * 1 := by simp
                go_upto_region 8 with fail
                go_cut [] (fun wx => DI D { s with path := path ++ [v], out := { r with cyc := r.cyc ++ [path ++ [v]] } } wx)
                case first =>
                  obtain ⟨T, hTd⟩ : ∃ T : World → Prop, T = fun w' => w'.cell? ⟨D.bs, 4, none⟩ = some (.slice p18 r.cyc.length k18) ∧ w'.cell? ⟨D.bs, 2, none⟩ = some (.slice (some ⟨g10, 0, none⟩) (path.length + 1) k10) := ⟨_, rfl⟩
                  have hTu : ∀ w', T w' → w'.cell? ⟨D.bs, 4, none⟩ = some (.slice p18 r.cyc.length k18) ∧ w'.cell? ⟨D.bs, 2, none⟩ = some (.slice (some ⟨g10, 0, none⟩) (path.length + 1) k10) := fun w' h => by rw [hTd] at h; exact h
                  have hTm : ∀ w', w'.cell? ⟨D.bs, 4, none⟩ = some (.slice p18 r.cyc.length k18) ∧ w'.cell? ⟨D.bs, 2, none⟩ = some (.slice (some ⟨g10, 0, none⟩) (path.length + 1) k10) → T w' := fun w' h => by rw [hTd]; exact h
                  have hT0 : T w6.drew := hTm _ ⟨c18, c10⟩
                  clear hTd
                  refine AnyBut.start (last := 14) (T := T) (by decide +kernel) ?_
                  refine AnyBut.take (i := 0) (v := ?av0) rfl (by decide +kernel) (by decide +kernel) (by decide +kernel) (by decide +kernel) (by decide) (fun _ _ _ h => h) (Or.inl ⟨by rfl, ?ah0⟩) (by assumption) ?ar0
                  case ah0 => (intro w8 hT8; replace hT8 := hTu w8 hT8; go_simp; try with_reducible rfl)
                  case ar0 =>
                  try simp only [Act.put, List.setIfInBounds_toArray, List.set_cons_zero, List.set_cons_succ]
                  refine AnyBut.take (i := 1) (v := ?av1) rfl (by decide +kernel) (by decide +kernel) (by decide +kernel) (by decide +kernel) (by decide) (fun _ _ _ h => h) (Or.inl ⟨by rfl, ?ah1⟩) (by assumption) ?ar1
                  case ah1 => (intro w8 hT8; replace hT8 := hTu w8 hT8; go_simp; try with_reducible rfl)
                  case ar1 =>
                  try simp only [Act.put, List.setIfInBounds_toArray, List.set_cons_zero, List.set_cons_succ]
                  refine AnyBut.take (i := 2) (v := ?av2) rfl (by decide +kernel) (by decide +kernel) (by decide +kernel) (by decide +kernel) (by decide) (fun _ _ _ h => h) (Or.inl ⟨by rfl, ?ah2⟩) (by assumption) ?ar2
                  case ah2 => (intro w8 hT8; replace hT8 := hTu w8 hT8; go_simp; try with_reducible rfl)
                  case ar2 =>
                  try simp only [Act.put, List.setIfInBounds_toArray, List.set_cons_zero, List.set_cons_succ]
                  refine AnyBut.take (i := 3) (v := ?av3) rfl (by decide +kernel) (by decide +kernel) (by decide +kernel) (by decide +kernel) (by decide) (fun _ _ _ h => h) (Or.inl ⟨by rfl, ?ah3⟩) (by assumption) ?ar3
                  case ah3 => (intro w8 hT8; replace hT8 := hTu w8 hT8; go_simp; try with_reducible rfl)
                  case ar3 =>
                  try simp only [Act.put, List.setIfInBounds_toArray, List.set_cons_zero, List.set_cons_succ]
                  refine AnyBut.take (i := 4) (v := ?av4) rfl (by decide +kernel) (by decide +kernel) (by decide +kernel) (by decide +kernel) (by decide) (fun _ _ _ h => h) (Or.inl ⟨by rfl, ?ah4⟩) (by assumption) ?ar4
                  case ah4 => (intro w8 hT8; replace hT8 := hTu w8 hT8; go_simp; try with_reducible rfl)
                  case ar4 =>
                  try simp only [Act.put, List.setIfInBounds_toArray, List.set_cons_zero, List.set_cons_succ]
                  refine AnyBut.take (i := 5) (v := ?av5) rfl (by decide +kernel) (by decide +kernel) (by decide +kernel) (by decide +kernel) (by decide) (fun _ _ _ h => h) (Or.inl ⟨by rfl, ?ah5⟩) (by assumption) ?ar5
                  case ah5 => (intro w8 hT8; replace hT8 := hTu w8 hT8; go_simp; try with_reducible rfl)
                  case ar5 =>
                  try simp only [Act.put, List.setIfInBounds_toArray, List.set_cons_zero, List.set_cons_succ]
                  refine AnyBut.take (i := 6) (v := ?av6) rfl (by decide +kernel) (by decide +kernel) (by decide +kernel) (by decide +kernel) (by decide) (fun _ _ _ h => h) (Or.inl ⟨by rfl, ?ah6⟩) (by assumption) ?ar6
                  case ah6 => (intro w8 hT8; replace hT8 := hTu w8 hT8; go_simp; try with_reducible rfl)
                  case ar6 =>
                  try simp only [Act.put, List.setIfInBounds_toArray, List.set_cons_zero, List.set_cons_succ]
                  refine AnyBut.take (i := 7) (v := ?av7) rfl (by decide +kernel) (by decide +kernel) (by decide +kernel) (by decide +kernel) (by decide) (fun _ _ _ h => h) (Or.inl ⟨by rfl, ?ah7⟩) (by assumption) ?ar7
                  case ah7 => (intro w8 hT8; replace hT8 := hTu w8 hT8; go_simp; try with_reducible rfl)
                  case ar7 =>
                  try simp only [Act.put, List.setIfInBounds_toArray, List.set_cons_zero, List.set_cons_succ]
                  refine AnyBut.take (i := 8) (v := ?av8) rfl (by decide +kernel) (by decide +kernel) (by decide +kernel) (by decide +kernel) (by decide) (fun _ _ _ h => h) (Or.inl ⟨by rfl, ?ah8⟩) (by assumption) ?ar8
                  case ah8 => (intro w8 hT8; replace hT8 := hTu w8 hT8; go_simp; try with_reducible rfl)
                  case ar8 =>
                  try simp only [Act.put, List.setIfInBounds_toArray, List.set_cons_zero, List.set_cons_succ]
                  simp only [Act.put, List.getElem_toArray, List.getElem_cons_zero, List.getElem_cons_succ, List.setIfInBounds_toArray, List.set_cons_zero, List.set_cons_succ]
                  refine AnyBut.only (i := 9) (by decide +kernel) ?_
                  refine wpOp_step rfl fun K' hK => ?_
                  have HK : Shut _ := hK
                  clear hK
                  refine step_append_lies _ (by rfl) _ _ _ (by rfl) D.B 3 i0 _ 1 8 Yba.underlying26 hi hz0 hz1 hz2 rfl (by omega) _ 0 [] (by rfl) hnil ⟨g10, 0, none⟩ (path.length + 1) k10 ((path ++ [v]).map iv) (by rfl) hnl hnews hones (by omega) (by unfold maxLen; omega) (by omega) (by simp; omega) (w6.heap.size) (by simp) ?_
                  intro g7 cap7 w7 hown7 hgr7 hat7 hlt7
                  have hg7 : w6.grownBy w7 none := ⟨hgr7.os, hgr7.tape, hgr7.output, hgr7.size, hgr7.block⟩
                  have hg7n : w6.heap.size ≤ g7 := by rcases hat7 with q | q; cases q; omega
                  have ho7 : w7.ownsRow D.B 3 1 (.slice (some ⟨g7, 0, none⟩) (path.length + 1) cap7) (path.length + 1) ((path ++ [v]).map iv) := by simpa using hown7
                  have HV7 : Hid (DV D own4 V4 { s with path := path ++ [v], out := r } w7) := HV6.out.grow hg7
                  have k10a : w7.cell? ⟨D.bs, 2, none⟩ = some (.slice (some ⟨g10, 0, none⟩) (path.length + 1) k10) := by rw [← E10.out]; exact HV7.out.cell rfl
                  have k18a : w7.cell? ⟨D.bs, 4, none⟩ = some (.slice p18 r.cyc.length k18) := by rw [← E18.out]; exact HV7.out.cell rfl
                  have hcy : w7.ownsRow D.B 26 1 (.slice p18 r.cyc.length k18) r.cyc.length ((List.range r.cyc.length).map fun k => V4 (.cyc k)) := by rw [← E18.out]; exact (HV7.out.mi.row .cycO _ rfl).1.owns rfl
                  have hcy2 := hcy.alloc (.cells #[.slice (some ⟨g7, 0, none⟩) (path.length + 1) cap7] 26 (0, 0))
                  have HO7 : Hid (w7.ownsRow D.B 3 1 (.slice (some ⟨g7, 0, none⟩) (path.length + 1) cap7) (path.length + 1) ((path ++ [v]).map iv)) := ho7
                  have HG7 : Hid (w6.grownBy w7 none) := hg7
                  have hsz7 := hg7.size
                  clear ho7 hown7 hgr7 hat7 hlt7 hg7 hcy hT0 hnil hnews hones hnl
                  have hT7 : T w7 := hTm _ ⟨k18a, k10a⟩
                  refine HK.out _ _ ⟨fun _ => hT7, ?_⟩
                  clear HK
                  try simp only [Act.put, List.setIfInBounds_toArray, List.set_cons_zero, List.set_cons_succ, Nat.zero_add]
                  refine AnyBut.only (i := 10) (by decide +kernel) ?_
                  refine wpOp_step rfl fun K' hK => ?_
                  have HK : Shut _ := hK
                  clear hK
                  go_simp
                  have hT8 : T (w7.alloc (.cells #[.slice (some ⟨g7, 0, none⟩) (path.length + 1) cap7] 26 (0, 0))) := hTm _ ⟨by rw [World.cell?_alloc_some _ _ _ (by rw [k18a]; rfl)]; exact k18a, by rw [World.cell?_alloc_some _ _ _ (by rw [k10a]; rfl)]; exact k10a⟩
                  refine HK.out _ _ ⟨fun _ => hT8, ?_⟩
                  clear HK
                  try simp only [Act.put, List.setIfInBounds_toArray, List.set_cons_zero, List.set_cons_succ]
                  refine AnyBut.only (i := 11) (by decide +kernel) ?_
                  refine wpOp_step rfl fun K' hK => ?_
                  have HK : Shut _ := hK
                  clear hK
                  refine step_append_lies _ (by rfl) _ _ _ (by rfl) D.B 26 i26 _ 1 24 Yba.underlying23 hi26 hz26a hz26b hz26c rfl (by omega) _ r.cyc.length _ (by rfl) hcy2 ⟨w7.heap.size, 0, none⟩ 1 1 [.slice (some ⟨g7, 0, none⟩) (path.length + 1) cap7] (by rfl) (by rfl) (World.news_of_block (cs := #[.slice (some ⟨g7, 0, none⟩) (path.length + 1) cap7]) (t := 26) (fr := (0, 0)) (heap_alloc_new w7 _)) (by simp [Value.oneCell']) (by omega) (by unfold maxLen; omega) (by omega) (by simp; omega) (w7.heap.size + 1) (by simp) ?_
                  intro g9 cap9 w9 hown9 hgr9 hat9 hlt9
                  have hgr9' : w7.grownBy w9 (V4 .cycO).ownBlock := by rw [E18.out]; exact grown_trans (World.grownBy_alloc _ _ _) hgr9
                  have k10b : w9.cell? ⟨D.bs, 2, none⟩ = some (.slice (some ⟨g10, 0, none⟩) (path.length + 1) k10) := by rw [← E10.out]; exact (HV7.out.far (t := .cycO) (by simp) rfl hgr9' (k := 2) rfl).1
                  have k18b : w9.cell? ⟨D.bs, 4, none⟩ = some (.slice p18 r.cyc.length k18) := by rw [← E18.out]; exact (HV7.out.far (t := .cycO) (by simp) rfl hgr9' (k := 4) rfl).1
                  have f18b : w9.frozen? ⟨D.bs, 4, none⟩ = false := (HV7.out.far (t := .cycO) (by simp) rfl hgr9' (k := 4) (x := V4 .cycO) rfl).2
                  obtain ⟨own9, V9, hV9⟩ := HV6.out.pushCyc (g0 := g7) (cap0 := cap7) HG7.out (by show w7.ownsRow D.B 3 1 (.slice (some ⟨g7, 0, none⟩) (path ++ [v]).length cap7) (path ++ [v]).length _; rw [hpl1]; exact HO7.out) hg7n hgr9' (by show w9.ownsRow D.B 26 1 _ _ (_ ++ [.slice (some ⟨g7, 0, none⟩) (path ++ [v]).length cap7]); rw [hpl1]; exact hown9) (by rw [E18.out]; exact hat9.imp id (fun h => by omega))
                  have HV9 : Hid (DI D { s with path := path ++ [v], out := { r with cyc := r.cyc ++ [path ++ [v]] } } (w9.setCell ⟨D.bs, 4, none⟩ (.slice (some ⟨g9, 0, none⟩) (r.cyc.length + 1) cap9))) := ⟨own9, V9, hV9⟩
                  clear hown9 hgr9 hat9 hlt9 hgr9' hV9 hT7 hT8 hcy2
                  have hT9 : T w9 := hTm _ ⟨k18b, k10b⟩
                  refine HK.out _ _ ⟨fun _ => hT9, ?_⟩
                  clear HK
                  try simp only [Act.put, List.setIfInBounds_toArray, List.set_cons_zero, List.set_cons_succ]
                  refine AnyBut.only (i := 12) (by decide +kernel) ?_
                  refine wpOp_step rfl fun K' hK => ?_
                  have HK : Shut _ := hK
                  clear hK
                  go_simp
                  refine HK.out _ _ ⟨fun _ => hT9, ?_⟩
                  clear HK
                  try simp only [Act.put, List.setIfInBounds_toArray, List.set_cons_zero, List.set_cons_succ]
                  refine AnyBut.only (i := 13) (by decide +kernel) ?_
                  refine wpOp_step rfl fun K' hK => ?_
                  have HK : Shut _ := hK
                  clear hK
                  go_simp
                  refine HK.out _ _ ⟨fun _ => hT9, ?_⟩
                  clear HK
                  try simp only [Act.put, List.setIfInBounds_toArray, List.set_cons_zero, List.set_cons_succ]
                  refine AnyBut.only (i := 14) (by decide +kernel) ?_
                  refine wpOp_step rfl fun K' hK => ?_
                  have HK : Shut _ := hK
                  clear hK
                  go_simp
                  refine HK.out _ _ ⟨fun h => absurd rfl h, AnyBut.done (by decide +kernel) ?_ _⟩
                  clear HK
                  go_wp2_with fail
                  go_meet
                  exact HV9.out
                case rest =>
                  as_aux_lemma =>
                    obtain ⟨own9, V9, hV9⟩ := hcut
                    have HV9 : Hid (DV D own9 V9 { s with path := path ++ [v], out := { r with cyc := r.cyc ++ [path ++ [v]] } } wc) := hV9
                    clear hV9 HV6 c18 f18 c10 HSL6 E18 E10 hnil hnews hones hnl
                    obtain ⟨g11, k11, e11, _, _, _⟩ := HV9.out.rowNZ (by simp)
                    have c10 : wc.cell? ⟨D.bs, 2, none⟩ = some (.slice (some ⟨g11, 0, none⟩) (path.length + 1) k11) := by rw [← hpl1, ← e11]; exact HV9.out.cell rfl
                    have c3 : wc.cell? ⟨D.bs, 7, none⟩ = some (.int .i64 r.num) := HV9.out.cell rfl
                    have f3 : wc.frozen? ⟨D.bs, 7, none⟩ = false := HV9.out.frozen 7
                    have hnn : r.num - ((path.length : Int) + 1) = r.num - ((path.length + 1 : Nat) : Int) := by omega
                    have HVA : Hid (DI D { s with path := path ++ [v], out := { r with cyc := r.cyc ++ [path ++ [v]], num := r.num - ((path.length + 1 : Nat) : Int) } } (wc.setCell ⟨D.bs, 7, none⟩ (.int .i64 (r.num - ((path.length : Int) + 1)))).drew) := by rw [hnn]; exact ⟨_, _, (HV9.out.setNum _).drewN 1⟩
                    clear HV9 hnn
                    go_wp2_with fail
                    go_region
                    clear c10 c3 f3
                    go_wp2_with fail
                    go_roundg ((D.A v).length - (k + 1))
                    case measure => rw [HGK.out]; omega
                    case rel => exact ⟨k + 1, rfl, by omega, by go_num, by rw [HNX.out]; exact HVA.out⟩
            · rw [if_neg hxs] at HDS
              have c1 : wr.cell? ⟨D.bs, 1, none⟩ = some (iv st) := by rw [show (iv st : Value) = .int .i64 s.start by rw [hst]]; exact HV4.out.cell rfl
              have hxs' : ((x : Int) == (st : Int)) = false := by rw [beq_eq_false_iff_ne]; omega
              have HXS : Hid (x ≠ st) := hxs
              have honp : s.onp = fun u => (path ++ [v]).contains u := HP.out.onp
              have HON : Hid (s.onp = fun u => (path ++ [v]).contains u) := honp
              have c3 : wr.cell? ⟨D.bs, 3, none⟩ = some (.slice (some ⟨D.ob, 0, none⟩) D.n D.n) := HV4.out.cell rfl
              have d3 : wr.cell? ⟨D.ob, x, none⟩ = some (.bool ((path ++ [v]).contains x)) := by rw [(HV4.out.cOn hxn).1]; show some (Value.bool (s.onp x)) = _; rw [honp]
              have d3f : wr.frozen? ⟨D.ob, x, none⟩ = false := (HV4.out.cOn hxn).2
              clear hxs honp
              by_cases hsx : st < x
              · have hsx' : (st : Int) < (x : Int) := by omega
                cases hct : (path ++ [v]).contains x
                · rw [hct] at d3
                  rw [if_pos ⟨hsx, by rw [hct]; simp⟩] at HDS
                  have HV5 : Hid (DV D own4 V4 { s with path := path ++ [v], onp := upd s.onp x true, out := r } (wr.setCell ⟨D.ob, x, none⟩ (.bool true))) := HV4.out.setOn x true
                  have HPN : Hid (DPre D st f (path ++ [v]) x { s with path := path ++ [v], onp := upd (fun u => (path ++ [v]).contains u) x true, out := r }) := HP.out.next HX.out hlt HRE.out hxn hct
                  rw [← HON.out] at HPN
                  have HBK : Hid (upd (upd s.onp x true) x false = s.onp) := by rw [HON.out]; exact onp_back _ _ hct
                  have HNX : Hid (Dk D.A D.lim st f path v s.out (k + 1) = dfsP D.A D.lim st f (path ++ [v]) x r) := HSU.out.trans HDS.out
                  clear HV4 hct
                  as_aux_lemma =>
                    go_upto_region 12 with fail
                    clear akk c5 c1 c3 d3 d3f
                    generalize wr.setCell ⟨D.ob, x, none⟩ (.bool true) = w5 at *
                    go_wp2_with fail
                    refine (IH.out (path ++ [v]) x _ w5 ⟨_, _, HV5.out⟩ HPN.out).mono ?_
                    rintro e w6 ⟨rfl, hh6⟩
                    obtain ⟨own6, V6, hV6⟩ := hh6
                    dsimp only at hV6
                    generalize dfsP D.A D.lim st f (path ++ [v]) x r = q at *
                    have HV6 : Hid (DV D own6 V6 { s with path := path ++ [v], onp := upd s.onp x true, out := q } w6) := hV6
                    have c3 : w6.cell? ⟨D.bs, 3, none⟩ = some (.slice (some ⟨D.ob, 0, none⟩) D.n D.n) := HV6.out.cell rfl
                    obtain ⟨d3, d3f⟩ := HV6.out.cOn hxn
                    have HH7 : Hid (DI D { s with path := path ++ [v], out := q } (w6.setCell ⟨D.ob, x, none⟩ (.bool false))) := by
                      have h := HV6.out.setOn x false
                      dsimp only at h
                      rw [HBK.out] at h
                      exact ⟨_, _, h⟩
                    clear hV6 HV6 HV5 HPN
                    go_wp2_with fail
                    go_roundg ((D.A v).length - (k + 1))
                    case measure => rw [HGK.out]; omega
                    case rel => exact ⟨k + 1, rfl, by omega, by go_num, by rw [HNX.out]; exact HH7.out⟩
                · rw [hct] at d3
                  rw [if_neg (fun h => h.2 hct)] at HDS
                  have HNX : Hid (Dk D.A D.lim st f path v s.out (k + 1) = r) := HSU.out.trans HDS.out
                  as_aux_lemma =>
                    go_wp2_with fail
                    go_roundg ((D.A v).length - (k + 1))
                    case measure => rw [HGK.out]; omega
                    case rel => exact ⟨k + 1, rfl, by omega, by go_num, by rw [HNX.out]; exact ⟨_, _, HV4.out⟩⟩
              · rw [if_neg (fun h => hsx h.1)] at HDS
                have HNX : Hid (Dk D.A D.lim st f path v s.out (k + 1) = r) := HSU.out.trans HDS.out
                have hsx' : decide ((st : Int) < (x : Int)) = false := decide_eq_false (by omega)
                have hsx2 : decide (st < x) = false := decide_eq_false hsx
                clear hsx
                as_aux_lemma =>
                  go_wp2_with fail
                  go_roundg ((D.A v).length - (k + 1))
                  case measure => rw [HGK.out]; omega
                  case rel => exact ⟨k + 1, rfl, by omega, by go_num, by rw [HNX.out]; exact ⟨_, _, HV4.out⟩⟩
          · rw [hmo] at c5
            as_aux_lemma =>
              go_wp2_with fail
              go_meet
              rw [HMR.out hmo]
              exact ⟨_, _, HV4.out⟩
        · obtain rfl : k = (D.A v).length := by omega
          as_aux_lemma =>
            go_wp2_with fail
            go_meet
            rw [HALL.out (by first | rfl | trivial)]
            exact ⟨_, _, HV4.out⟩
    case rest =>
      as_aux_lemma =>
        obtain ⟨own5, V5, hV5⟩ := hcut
        have HV5 : Hid (DV D own5 V5 { s with path := path ++ [v], out := dfsP D.A D.lim st (f + 1) path v s.out } wc) := hV5
        clear hV5 HV2 HD0 HDA
        obtain ⟨g10, k10, e10, hk10, hm10, _⟩ := HV5.out.rowNZ (by simp)
        have hpl1 : (path ++ [v]).length = path.length + 1 := by simp
        have c10 : wc.cell? ⟨D.bs, 2, none⟩ = some (.slice (some ⟨g10, 0, none⟩) (path.length + 1) k10) := by rw [← hpl1, ← e10]; exact HV5.out.cell rfl
        have f10 : wc.frozen? ⟨D.bs, 2, none⟩ = false := HV5.out.frozen 2
        have hk10' : ((path.length : Int) + 1) ≤ (k10 : Int) := by have h : (path ++ [v]).length ≤ k10 := hk10; omega
        have HV6 : Hid (DI D { s with out := dfsP D.A D.lim st (f + 1) path v s.out } (wc.setCell ⟨D.bs, 2, none⟩ (.slice (some ⟨g10, 0, none⟩) path.length k10)).drew) := by
          have h := (HV5.out.popPath e10 path.length (by show path.length ≤ (path ++ [v]).length; omega)).drewN 1
          rw [show (path ++ [v]).take path.length = s.path by rw [hpa]; simp] at h
          exact ⟨_, _, h⟩
        clear HV5
        go_wp2_with fail
        go_region
        clear c10 f10
        go_wp2_with fail
        go_end0
        exact ⟨rfl, HV6.out⟩
end Go.Proofs.Ybulkcyk
