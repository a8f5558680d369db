/-
  (*search).look (function 11), walked.
-/
import Derived.Test.YbulkcykCirc
import Derived.Test.YbulkcykRunLaw
import Derived.Test.YbulkcykSplitPre
namespace Go.Proofs.Ybulkcyk
open Go.RowKit
set_option linter.unusedSimpArgs false

def tosS (pof : Nat → Int) (wi : Int) (x : (Nat → Bool) × Int) (u : Nat) : (Nat → Bool) × Int := if pof u = wi then (upd x.1 u true, x.2 + 1) else x
def tosK (pof : Nat → Int) (wi : Int) (l : List Nat) (k : Nat) : (Nat → Bool) × Int := (l.take k).foldl (tosS pof wi) (fun _ => false, 0)
theorem tosK_succ (pof : Nat → Int) (wi : Int) (l : List Nat) (k : Nat) (h : k < l.length) : tosK pof wi l (k + 1) = tosS pof wi (tosK pof wi l k) (l.getD k 0) := by
  unfold tosK
  rw [take_succ' h, List.foldl_append]; rfl
theorem tos_fold (pof : Nat → Int) (wi : Int) : ∀ (l : List Nat) (x : (Nat → Bool) × Int), l.foldl (tosS pof wi) x = (fun u => x.1 u || (l.contains u && decide (pof u = wi)), x.2 + ((l.filter (fun u => decide (pof u = wi))).length : Int)) := by
  intro l
  induction l with
  | nil => intro x; simp
  | cons a r ih =>
    intro x
    rw [List.foldl_cons, ih]
    unfold tosS
    by_cases h : pof a = wi
    · rw [if_pos h, List.filter_cons_of_pos (by simpa using h)]
      refine Prod.ext ?_ ?_
      · funext u
        by_cases e : u = a
        · subst e; simp [upd, h]
        · simp [upd, e]
      · simp; omega
    · rw [if_neg h, List.filter_cons_of_neg (by simpa using h)]
      refine Prod.ext ?_ rfl
      funext u
      by_cases e : u = a
      · subst e; simp [h]
      · simp [e]
theorem tosK_all (pof : Nat → Int) (wi : Int) (l : List Nat) : tosK pof wi l l.length = (fun u => l.contains u && decide (pof u = wi), ((l.filter (fun u => decide (pof u = wi))).length : Int)) := by
  unfold tosK
  rw [List.take_length, tos_fold]
  simp
theorem tosK_le (pof : Nat → Int) (wi : Int) (l : List Nat) (k : Nat) : 0 ≤ (tosK pof wi l k).2 ∧ (tosK pof wi l k).2 ≤ l.length := by
  unfold tosK
  rw [tos_fold]
  have h1 := List.length_filter_le (fun u => decide (pof u = wi)) (l.take k)
  have h2 : (l.take k).length ≤ l.length := by rw [List.length_take]; omega
  show 0 ≤ 0 + (((l.take k).filter (fun u => decide (pof u = wi))).length : Int) ∧ 0 + (((l.take k).filter (fun u => decide (pof u = wi))).length : Int) ≤ l.length
  omega
def clrK (f : Nat → Bool) (l : List Nat) (k : Nat) : Nat → Bool := (l.take k).foldl (fun f u => upd f u false) f
theorem clrK_succ (f : Nat → Bool) (l : List Nat) (k : Nat) (h : k < l.length) : clrK f l (k + 1) = upd (clrK f l k) (l.getD k 0) false := by
  unfold clrK
  rw [take_succ' h, List.foldl_append]; rfl
theorem clr_fold : ∀ (l : List Nat) (f : Nat → Bool), l.foldl (fun f u => upd f u false) f = fun u => if u ∈ l then false else f u := by
  intro l
  induction l with
  | nil => intro f; simp
  | cons a r ih =>
    intro f
    rw [List.foldl_cons, ih]
    funext u
    by_cases e : u = a
    · subst e; simp [upd]
    · simp [upd, e]
theorem clrK_all {f : Nat → Bool} {l : List Nat} (h : ∀ u, u ∉ l → f u = false) : clrK f l l.length = fun _ => false := by
  unfold clrK
  rw [List.take_length, clr_fold]
  funext u
  by_cases e : u ∈ l
  · rw [if_pos e]
  · rw [if_neg e, h u e]
structure LkPre (E : En) (st : Nat) (s : Hs) : Prop where
  pi : PI E.A E.n st (-1) (ssOf s)
  hst : st < E.n
  p0 : 0 ≤ s.tj.pof st
  start : s.start = (st : Int)
  within : s.within = s.tj.pof st
  tos : s.tos = fun _ => false
  path : s.path = []
  mo : s.out.more = false
  nu : s.out.num ≤ 9223372036854775807
  cb : s.out.cyc.length ≤ 100000000

set_option maxRecDepth 10000 in
set_option maxHeartbeats 4000000 in
theorem look11 {E : En} (X : EH E) (RX : RH E) (G : GH E.A E.R E.n) {s : Hs} {w : World} {st : Nat} (hHI : HI E s w) (P : LkPre E st s) : Calls Yba.prog 11 #[.pointer (some ⟨E.bs, 0, none⟩)] w fun e w' => e = .returned (.tuple #[]) ∧ HI E (hsOf s (lookP E.A E.R E.n E.lim st (ssOf s))) w' := by
  have HX : Hid (EH E) := X
  have HRX : Hid (RH E) := RX
  have HG : Hid (GH E.A E.R E.n) := G
  have HP : Hid (LkPre E st s) := P
  have hn7 : E.n ≤ 7 := X.n7
  have hsn : st < E.n := P.hst
  have hsn' : (st : Int) < (E.n : Int) := by omega
  have hst : s.start = (st : Int) := P.start
  have hRl : (E.R st).length ≤ 7 := RX.len st
  have HRlt : Hid (∀ u ∈ E.R st, u < E.n) := RX.lt st
  have HT0 : Hid (tosK s.tj.pof s.within (E.R st) 0 = (fun _ => false, 0)) := rfl
  have HTA : Hid (tosK s.tj.pof s.within (E.R st) (E.R st).length = (fun u => (E.R st).contains u && decide (s.tj.pof u = s.within), (((E.R st).filter (fun u => decide (s.tj.pof u = s.within))).length : Int))) := tosK_all _ _ _
  have HTL : Hid (∀ k, 0 ≤ (tosK s.tj.pof s.within (E.R st) k).2 ∧ (tosK s.tj.pof s.within (E.R st) k).2 ≤ (E.R st).length) := fun k => tosK_le _ _ _ k
  obtain ⟨gr, cr, pR, cR, er, hrad⟩ := X.rad.at hsn
  have HRD : Hid (∀ own V s w, HV E own V s w → w.cell? ⟨gr, st, none⟩ = some (.slice pR (E.R st).length cR) ∧ SlR w pR (E.R st)) := hrad
  obtain ⟨own, V, H⟩ := hHI
  have HV0 : Hid (HV E own V s w) := H
  have hop0 : s.jn.opn = 0 := P.pi.jr.opn
  have HS0 : Hid (s = { s with tos := fun _ => false, jn := { s.jn with opn := 0 } }) := by
    show s = _
    rw [← hop0, ← P.tos]
  clear X RX G P H hrad hop0
  have c1 : w.cell? ⟨E.bs, 1, none⟩ = some (.slice (some ⟨gr, 0, none⟩) E.n cr) := by rw [← er]; exact HV0.out.mi.cell rfl
  have c6 : w.cell? ⟨E.bs, 6, none⟩ = some (.int .i64 (st : Int)) := by rw [← hst]; exact HV0.out.mi.cell rfl
  have r0 := (HRD.out _ _ _ _ HV0.out).1
  go_enter Yba.func11, Yba.ntmps11
  go_wp2_with fail
  go_quiet (fail)
  have HH1 : Hid (HI E { s with tos := fun _ => false, jn := { s.jn with opn := 0 } } (w.drewN nq)) := by
    have h := HV0.out.drewN nq
    rw [HS0.out] at h
    exact ⟨_, _, h⟩
  clear HV0 c1 c6 r0 HS0
  generalize w.drewN nq = w1 at *
  go_upto_block 0 with fail
  go_cut [] (fun wx => HI E { s with tos := (tosK s.tj.pof s.within (E.R st) (E.R st).length).1, jn := { s.jn with opn := (tosK s.tj.pof s.within (E.R st) (E.R st).length).2 } } wx)
  case first =>
    as_aux_lemma =>
      go_wp2_with fail
      go_loopg [17] (E.R st).length (fun gn kv wr => ∃ k : Nat, gn = (E.R st).length - k ∧ k ≤ (E.R st).length ∧ kv = iv k ∧ HI E { s with tos := (tosK s.tj.pof s.within (E.R st) k).1, jn := { s.jn with opn := (tosK s.tj.pof s.within (E.R st) k).2 } } wr)
      case atStart => exact ⟨0, rfl, Nat.zero_le _, rfl, by rw [HT0.out]; exact HH1.out⟩
      case round =>
        clear HH1 HT0 HTA
        obtain ⟨k, hgk, hk, rfl, own3, V3, hV3⟩ := hrel
        have HGK : Hid (gk = (E.R st).length - k) := hgk
        have HSUC : Hid (k < (E.R st).length → tosK s.tj.pof s.within (E.R st) (k + 1) = tosS s.tj.pof s.within (tosK s.tj.pof s.within (E.R st) k) ((E.R st).getD k 0)) := fun h => tosK_succ _ _ _ _ h
        have HALL : Hid (k = (E.R st).length → tosK s.tj.pof s.within (E.R st) (E.R st).length = tosK s.tj.pof s.within (E.R st) k) := fun h => by rw [← h]
        have hxl := HTL.out k
        generalize tosK s.tj.pof s.within (E.R st) k = x at *
        obtain ⟨x1, x2⟩ := x
        obtain ⟨hx20, hx27⟩ := hxl
        dsimp only at hx20 hx27
        have HV3 : Hid (HV E own3 V3 { s with tos := x1, jn := { s.jn with opn := x2 } } wr) := hV3
        clear hgk hV3 HTL
        by_cases hlt : k < (E.R st).length
        · have hlt' : (k : Int) < ((E.R st).length : Int) := by omega
          obtain ⟨gA, oA, epA, hcell⟩ := (HRD.out _ _ _ _ HV3.out).2 (by omega)
          have akk := hcell k hlt
          have HXm : Hid ((E.R st).getD k 0 ∈ E.R st) := by
            show (E.R st).getD k 0 ∈ E.R st
            rw [List.getD_eq_getElem?_getD, List.getElem?_eq_getElem hlt]; exact List.getElem_mem _
          have HSU : Hid (tosK s.tj.pof s.within (E.R st) (k + 1) = tosS s.tj.pof s.within (x1, x2) ((E.R st).getD k 0)) := HSUC.out hlt
          clear hcell HSUC HALL
          generalize hxx : (E.R st).getD k 0 = u at *
          clear hxx
          subst epA
          have hun : u < E.n := HRlt.out u HXm.out
          have hun' : (u : Int) < (E.n : Int) := by omega
          obtain ⟨b4, e4⟩ := HV3.out.fx .pof rfl
          have c4 : wr.cell? ⟨E.bs, 4, none⟩ = some (.slice (some ⟨b4, 0, none⟩) E.n E.n) := by rw [← e4]; exact HV3.out.mi.cell rfl
          have d4 : wr.cell? ⟨b4, u, none⟩ = some (.int .i64 (s.tj.pof u)) := (HV3.out.cPof e4 hun).1
          have c7 : wr.cell? ⟨E.bs, 7, none⟩ = some (.int .i64 s.within) := HV3.out.mi.cell rfl
          have HTS : Hid (tosS s.tj.pof s.within (x1, x2) u = if s.tj.pof u = s.within then (upd x1 u true, x2 + 1) else (x1, x2)) := rfl
          by_cases hp : s.tj.pof u = s.within
          · rw [if_pos hp] at HTS
            have hpd : (s.tj.pof u == s.within) = true := by simpa using hp
            have HNX : Hid (tosK s.tj.pof s.within (E.R st) (k + 1) = (upd x1 u true, x2 + 1)) := HSU.out.trans HTS.out
            clear hp
            as_aux_lemma =>
              go_wp2_with fail
              go_quiet (fail)
              have HV4 : Hid (HV E own3 V3 { s with tos := x1, jn := { s.jn with opn := x2 } } (wr.drewN nq)) := HV3.out.drewN nq
              clear HV3 c4 d4 c7 akk
              generalize wr.drewN nq = w4 at *
              obtain ⟨b11, e11⟩ := HV4.out.fx .tos rfl
              have c11 : w4.cell? ⟨E.bs, 11, none⟩ = some (.slice (some ⟨b11, 0, none⟩) E.n E.n) := by rw [← e11]; exact HV4.out.mi.cell rfl
              have d11 : w4.cell? ⟨b11, u, none⟩ = some (.bool (x1 u)) := (HV4.out.cTos e11 hun).1
              have d11f : w4.frozen? ⟨b11, u, none⟩ = false := (HV4.out.cTos e11 hun).2
              have HV5 : Hid (HV E own3 V3 { s with tos := upd x1 u true, jn := { s.jn with opn := x2 } } (w4.setCell ⟨b11, u, none⟩ (.bool true))) := HV4.out.setTos e11 u true
              clear HV4
              go_upto_region 5 with fail
              clear c11 d11 d11f e11
              generalize w4.setCell ⟨b11, u, none⟩ (.bool true) = w5 at *
              have c12 : w5.cell? ⟨E.bs, 12, none⟩ = some (.int .i64 x2) := HV5.out.mi.cell rfl
              have f12 : w5.frozen? ⟨E.bs, 12, none⟩ = false := HV5.out.mi.frozen 12
              have HV6 : Hid (HV E own3 V3 { s with tos := upd x1 u true, jn := { s.jn with opn := x2 + 1 } } (w5.setCell ⟨E.bs, 12, none⟩ (.int .i64 (x2 + 1)))) := HV5.out.setOpn (x2 + 1)
              clear HV5
              go_wp2_with fail
              go_roundg ((E.R st).length - (k + 1))
              case measure => rw [HGK.out]; omega
              case rel => exact ⟨k + 1, rfl, by omega, by go_num, by rw [HNX.out]; exact ⟨_, _, HV6.out⟩⟩
          · rw [if_neg hp] at HTS
            have hpd : (s.tj.pof u == s.within) = false := by simpa using hp
            have HNX : Hid (tosK s.tj.pof s.within (E.R st) (k + 1) = (x1, x2)) := HSU.out.trans HTS.out
            clear hp
            as_aux_lemma =>
              go_wp2_with fail
              go_quiet (fail)
              go_wp2_with fail
              go_roundg ((E.R st).length - (k + 1))
              case measure => rw [HGK.out]; omega
              case rel => exact ⟨k + 1, rfl, by omega, by go_num, by rw [HNX.out]; exact ⟨_, _, HV3.out.drewN _⟩⟩
        · obtain rfl : k = (E.R st).length := by omega
          as_aux_lemma =>
            go_wp2_with fail
            go_meet
            rw [HALL.out (by first | rfl | trivial)]
            exact ⟨_, _, HV3.out⟩
  case rest =>
    rw [HTA.out] at hcut
    have HH2 : Hid (HI E { s with tos := (jcOf E.A E.R E.n E.lim st s.tj.pof).tos, jn := { s.jn with opn := (((E.R st).filter (fun u => decide (s.tj.pof u = s.tj.pof st))).length : Int) } } wc) := by
      show HI E { s with tos := fun u => (E.R st).contains u && decide (s.tj.pof u = s.tj.pof st), jn := { s.jn with opn := (((E.R st).filter (fun u => decide (s.tj.pof u = s.tj.pof st))).length : Int) } } wc
      rw [← HP.out.within]
      exact hcut
    have HCP : Hid (CPre E (jcOf E.A E.R E.n E.lim st s.tj.pof) (E.n + 1) [] st { s with tos := (jcOf E.A E.R E.n E.lim st s.tj.pof).tos, jn := { s.jn with opn := (((E.R st).filter (fun u => decide (s.tj.pof u = s.tj.pof st))).length : Int) } }) := by
      have P := HP.out
      obtain ⟨_, _, q1, q2⟩ := look_law (lim := E.lim) HG.out P.pi P.hst P.p0 P.mo
      have hb : ∀ u, s.jn.blk u = false := P.pi.jr.blk
      have hl : ∀ u, s.jn.bls u = [] := P.pi.jr.bls
      refine ⟨P.path, P.start, fun u => ?_, rfl, q1, List.nodup_nil, fun u hu => absurd hu (by simp), by simp, by simp [jcOf], hb st, rfl, q2, P.mo, ⟨fun u hu => ?_, fun x u hu => ?_, fun x => ?_⟩, P.nu, ?_⟩
      · show decide (s.tj.pof u = s.tj.pof st) = decide (s.tj.pof u = s.within)
        rw [P.within]
      · rw [show s.jn.blk u = false from hb u] at hu; cases hu
      · rw [show s.jn.bls x = [] from hl x] at hu; cases hu
      · show (s.jn.bls x).Nodup
        rw [hl x]; exact List.nodup_nil
      · have h1 : (7 : Nat) ^ (E.n + 1) ≤ 7 ^ 8 := Nat.pow_le_pow_right (by omega) (by omega)
        have h2 : (7 : Nat) ^ 8 = 5764801 := by decide
        have h3 := P.cb
        show s.out.cyc.length + 7 ^ (E.n + 1) ≤ 1000000000
        omega
    have HJH : Hid (JH (jcOf E.A E.R E.n E.lim st s.tj.pof)) := jh_of HG.out HP.out.pi HP.out.hst HP.out.p0
    have HLK : Hid (lookP E.A E.R E.n E.lim st (ssOf s) = { ssOf s with jn := { (circP (jcOf E.A E.R E.n E.lim st s.tj.pof) (E.n + 1) [] st { s.jn with opn := (((E.R st).filter (fun u => decide (s.tj.pof u = s.tj.pof st))).length : Int) } s.out).j with opn := 0 }, out := (circP (jcOf E.A E.R E.n E.lim st s.tj.pof) (E.n + 1) [] st { s.jn with opn := (((E.R st).filter (fun u => decide (s.tj.pof u = s.tj.pof st))).length : Int) } s.out).o }) := rfl
    have HTF : Hid (∀ u, u ∉ E.R st → (jcOf E.A E.R E.n E.lim st s.tj.pof).tos u = false) := fun u hu => by
      show ((E.R st).contains u && _) = false
      rw [List.contains_eq_mem, decide_eq_false hu]; rfl
    clear hcut HH1 HTA HT0 HTL
    have c6 : wc.cell? ⟨E.bs, 6, none⟩ = some (iv st) := by obtain ⟨a, b, h⟩ := HH2.out; rw [show (iv st : Value) = .int .i64 s.start by rw [hst]]; exact h.mi.cell rfl
    as_aux_lemma =>
      go_wp2_with fail
      refine (circuit15 HX.out (c := jcOf E.A E.R E.n E.lim st s.tj.pof) ⟨rfl, rfl, rfl⟩ HJH.out (E.n + 1) [] st _ wc HH2.out HCP.out).mono ?_
      rintro e w2 ⟨rfl, hh2⟩
      dsimp only at hh2 ⊢
      generalize circP (jcOf E.A E.R E.n E.lim st s.tj.pof) (E.n + 1) [] st { s.jn with opn := (((E.R st).filter (fun u => decide (s.tj.pof u = s.tj.pof st))).length : Int) } s.out = r at *
      generalize (jcOf E.A E.R E.n E.lim st s.tj.pof).tos = tf at *
      obtain ⟨own2, V2, hV2⟩ := hh2
      have HV2 : Hid (HV E own2 V2 { s with tos := tf, jn := r.j, out := r.o } w2) := hV2
      clear hV2 HH2 HCP HJH c6
      have c1 : w2.cell? ⟨E.bs, 1, none⟩ = some (.slice (some ⟨gr, 0, none⟩) E.n cr) := by rw [← er]; exact HV2.out.mi.cell rfl
      have c6 : w2.cell? ⟨E.bs, 6, none⟩ = some (.int .i64 (st : Int)) := by rw [← hst]; exact HV2.out.mi.cell rfl
      have r0 := (HRD.out _ _ _ _ HV2.out).1
      go_wp2_with fail
      go_quiet (fail)
      have HH3 : Hid (HI E { s with tos := tf, jn := r.j, out := r.o } (w2.drewN nq)) := ⟨_, _, HV2.out.drewN nq⟩
      clear HV2 c1 c6 r0
      generalize w2.drewN nq = w3 at *
      have HC0 : Hid (clrK tf (E.R st) 0 = tf) := rfl
      have HCA : Hid (clrK tf (E.R st) (E.R st).length = fun _ => false) := clrK_all HTF.out
      go_upto_block 2 with fail
      go_cut [] (fun wx => HI E { s with tos := fun _ => false, jn := r.j, out := r.o } wx)
      case first =>
        as_aux_lemma =>
          go_wp2_with fail
          go_loopg [64] (E.R st).length (fun gn kv wr => ∃ k : Nat, gn = (E.R st).length - k ∧ k ≤ (E.R st).length ∧ kv = iv k ∧ HI E { s with tos := clrK tf (E.R st) k, jn := r.j, out := r.o } wr)
          case atStart => exact ⟨0, rfl, Nat.zero_le _, rfl, by rw [HC0.out]; exact HH3.out⟩
          case round =>
            clear HH3 HC0
            obtain ⟨k, hgk, hk, rfl, own3, V3, hV3⟩ := hrel
            have HGK : Hid (gk = (E.R st).length - k) := hgk
            have HSUC : Hid (k < (E.R st).length → clrK tf (E.R st) (k + 1) = upd (clrK tf (E.R st) k) ((E.R st).getD k 0) false) := fun h => clrK_succ _ _ _ h
            have HALL : Hid (k = (E.R st).length → (fun _ => false) = clrK tf (E.R st) k) := fun h => by rw [h]; exact HCA.out.symm
            generalize clrK tf (E.R st) k = x at *
            have HV3 : Hid (HV E own3 V3 { s with tos := x, jn := r.j, out := r.o } wr) := hV3
            clear hgk hV3
            by_cases hlt : k < (E.R st).length
            · have hlt' : (k : Int) < ((E.R st).length : Int) := by omega
              obtain ⟨gA, oA, epA, hcell⟩ := (HRD.out _ _ _ _ HV3.out).2 (by omega)
              have akk := hcell k hlt
              have HXm : Hid ((E.R st).getD k 0 ∈ E.R st) := by
                show (E.R st).getD k 0 ∈ E.R st
                rw [List.getD_eq_getElem?_getD, List.getElem?_eq_getElem hlt]; exact List.getElem_mem _
              have HNX : Hid (clrK tf (E.R st) (k + 1) = upd x ((E.R st).getD k 0) false) := HSUC.out hlt
              clear hcell HSUC HALL
              generalize hxx : (E.R st).getD k 0 = u at *
              clear hxx
              subst epA
              have hun : u < E.n := HRlt.out u HXm.out
              have hun' : (u : Int) < (E.n : Int) := by omega
              obtain ⟨b11, e11⟩ := HV3.out.fx .tos rfl
              have c11 : wr.cell? ⟨E.bs, 11, none⟩ = some (.slice (some ⟨b11, 0, none⟩) E.n E.n) := by rw [← e11]; exact HV3.out.mi.cell rfl
              have d11 : wr.cell? ⟨b11, u, none⟩ = some (.bool (x u)) := (HV3.out.cTos e11 hun).1
              have d11f : wr.frozen? ⟨b11, u, none⟩ = false := (HV3.out.cTos e11 hun).2
              have HV5 : Hid (HV E own3 V3 { s with tos := upd x u false, jn := r.j, out := r.o } (wr.setCell ⟨b11, u, none⟩ (.bool false))) := HV3.out.setTos e11 u false
              clear HV3
              as_aux_lemma =>
                go_wp2_with fail
                go_roundg ((E.R st).length - (k + 1))
                case measure => rw [HGK.out]; omega
                case rel => exact ⟨k + 1, rfl, by omega, by go_num, by rw [HNX.out]; exact ⟨_, _, HV5.out⟩⟩
            · obtain rfl : k = (E.R st).length := by omega
              as_aux_lemma =>
                go_wp2_with fail
                go_meet
                rw [HALL.out (by first | rfl | trivial)]
                exact ⟨_, _, HV3.out⟩
      case rest =>
        obtain ⟨own4, V4, hV4⟩ := hcut
        have HV4 : Hid (HV E own4 V4 { s with tos := fun _ => false, jn := r.j, out := r.o } wc) := hV4
        have c12 : wc.cell? ⟨E.bs, 12, none⟩ = some (.int .i64 r.j.opn) := hV4.mi.cell rfl
        have f12 : wc.frozen? ⟨E.bs, 12, none⟩ = false := hV4.mi.frozen 12
        have HHE : Hid (HI E (hsOf s (lookP E.A E.R E.n E.lim st (ssOf s))) (wc.setCell ⟨E.bs, 12, none⟩ (.int .i64 0))) := by
          show HI E (hsOf s (lookP E.A E.R E.n E.lim st (ssOf s))) _
          rw [HLK.out]
          have h := HV4.out.setOpn 0
          rw [← HP.out.tos] at h
          exact ⟨_, _, h⟩
        clear hV4 HV4 HH3
        as_aux_lemma =>
          go_wp2_with fail
          go_end0
          exact ⟨rfl, HHE.out⟩
end Go.Proofs.Ybulkcyk
