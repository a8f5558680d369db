/-
  (*search).unblock (function 20), walked.
-/
import Derived.Test.YbulkcykState2
import Derived.Test.YbulkcykJohn
import Derived.BigRegion
namespace Go.Proofs.Ybulkcyk
open Go.RowKit

theorem HV.rowNZ {E : En} {own : Nat → Tag} {V : Tag → Value} {s : Hs} {w : World} (h : HV E own V s w) {t : Tag} {l : List Nat} (hR : RwOf E.n V s t = some (rowI (V t) l)) (hl : 0 < l.length) : ∃ g cap, V t = .slice (some ⟨g, 0, none⟩) l.length cap ∧ l.length ≤ cap ∧ cap ≤ maxLen ∧ ∀ i, i < l.length → w.cell? ⟨g, i, none⟩ = some (iv (l.getD i 0)) := by
  have hr := (h.mi.row t _ hR).1
  rcases hr.2 with ⟨_, e⟩ | ⟨g, cap, cur, h1, _, _, h4, h5, _⟩
  · have e' : l.length = 0 := e; omega
  · refine ⟨g, cap, h1, h4, h5, fun i hi => ?_⟩
    have := hr.cell (i := i) (u := iv (l.getD i 0)) h1 (by
      show (l.map iv)[i]? = _
      rw [List.getElem?_map, List.getD_eq_getElem?_getD, List.getElem?_eq_getElem hi]
      rfl)
    simpa [rowI] using this

theorem HV.form {E : En} {own : Nat → Tag} {V : Tag → Value} {s : Hs} {w : World} (h : HV E own V s w) {t : Tag} {l : List Nat} (hR : RwOf E.n V s t = some (rowI (V t) l)) : ∃ p cap, V t = .slice p l.length cap := by
  rcases (h.mi.row t _ hR).1.2 with ⟨e1, e2⟩ | ⟨g, cap, cur, h1, _⟩
  · have e2' : l.length = 0 := e2
    rw [e2']; exact ⟨_, _, e1⟩
  · exact ⟨_, _, h1⟩

set_option maxRecDepth 10000 in
set_option maxHeartbeats 1600000 in
theorem unblock20 (E : En) : ∀ f v s w, HI E s w → v < E.n → Fuel f v s.jn → (∀ x u, u ∈ s.jn.bls x → u < E.n) → Calls Yba.prog 20 #[.pointer (some ⟨E.bs, 0, none⟩), iv v] w fun e w' => e = .returned (.tuple #[]) ∧ HI E { s with jn := unbP f v s.jn } w' := by
  intro f
  induction f with
  | zero => intro v s w _ _ ⟨L, h, _⟩; omega
  | succ f ih =>
    intro v s w hHI hv hf hlt
    have IH : Hid (∀ v s w, HI E s w → v < E.n → Fuel f v s.jn → (∀ x u, u ∈ s.jn.bls x → u < E.n) → Calls Yba.prog 20 #[.pointer (some ⟨E.bs, 0, none⟩), iv v] w fun e w' => e = .returned (.tuple #[]) ∧ HI E { s with jn := unbP f v s.jn } w') := ih
    have HF : Hid (Fuel (f + 1) v s.jn) := hf
    have HLT : Hid (∀ x u, u ∈ s.jn.bls x → u < E.n) := hlt
    have HE : Hid (unbP (f + 1) v s.jn = (s.jn.bls v).reverse.foldl (unbS f v) { s.jn with blk := upd s.jn.blk v false }) := rfl
    have HU0 : Hid (UnbL v s.jn (s.jn.bls v).reverse { s.jn with blk := upd s.jn.blk v false }) := unb_start v s.jn
    obtain ⟨own, V, H⟩ := hHI
    clear ih hf hlt
    obtain ⟨b8, e8⟩ := H.fx .blk rfl
    have c8 : w.cell? ⟨E.bs, 8, none⟩ = some (.slice (some ⟨b8, 0, none⟩) E.n E.n) := by rw [← e8]; exact H.mi.cell rfl
    obtain ⟨d8, d8f⟩ := H.cBlk e8 hv
    have hv' : (v : Int) < (E.n : Int) := by omega
    have H1 : Hid (HV E own V { s with jn := { s.jn with blk := upd s.jn.blk v false } } (w.setCell ⟨b8, v, none⟩ (.bool false))) := H.setBlk e8 v false
    clear H
    go_enter Yba.func20, Yba.ntmps20
    go_wp2_with fail
    clear c8 d8 d8f e8
    generalize w.setCell ⟨b8, v, none⟩ (.bool false) = w1 at *
    go_loopg [] (s.jn.bls v).length (fun gn wr => ∃ rest jc, gn = rest.length ∧ UnbL v s.jn rest jc ∧ rest.foldl (unbS f v) jc = unbP (f + 1) v s.jn ∧ HI E { s with jn := jc } wr)
    case atStart => exact ⟨(s.jn.bls v).reverse, _, by simp, HU0.out, rfl, own, V, H1.out⟩
    case round =>
      clear H1 HU0 HE
      obtain ⟨rest, jc, hgk, hU, hfold, own2, V2, H⟩ := hrel
      have HGK : Hid (gk = rest.length) := hgk
      have HU : Hid (UnbL v s.jn rest jc) := hU
      have HFO : Hid (rest.foldl (unbS f v) jc = unbP (f + 1) v s.jn) := hfold
      have hbv := hU.bv
      clear hgk hU hfold
      obtain ⟨b9, e9⟩ := H.fx .blsO rfl
      have c9 : wr.cell? ⟨E.bs, 9, none⟩ = some (.slice (some ⟨b9, 0, none⟩) E.n E.n) := by rw [← e9]; exact H.mi.cell rfl
      obtain ⟨d9, d9f⟩ := H.cBls e9 hv
      have hRv : RwOf E.n V2 { s with jn := jc } (.bls v) = some (rowI (V2 (.bls v)) (jc.bls v)) := if_pos hv
      cases rest with
      | nil =>
        have hlen : (jc.bls v).length = 0 := by rw [hbv]; rfl
        obtain ⟨p0, c0, hv0⟩ := H.form hRv
        rw [hlen] at hv0
        rw [hv0] at d9
        have HH : Hid (HI E { s with jn := unbP (f + 1) v s.jn } wr) := by
          show HI E { s with jn := unbP (f + 1) v s.jn } wr
          rw [← HFO.out]
          exact ⟨own2, V2, H⟩
        clear H hRv
        go_wp2_with fail
        go_end0
        exact ⟨rfl, HH.out⟩
      | cons x r =>
        have hl : (jc.bls v).length = r.length + 1 := by rw [hbv]; simp
        obtain ⟨g, cap, hvv, hcap, hcm, hcells⟩ := H.rowNZ hRv (by omega)
        have hlast : wr.cell? ⟨g, r.length, none⟩ = some (iv x) := by
          rw [hcells r.length (by omega), hbv]
          simp
        rw [hvv, hl] at d9
        have hx : x < E.n := HLT.out v x (HU.out.subl v x (by rw [hbv]; simp))
        have hx' : (x : Int) < (E.n : Int) := by omega
        have hcap' : ((r.length : Int) + 1) ≤ (cap : Int) := by omega
        have HH : Hid (HV E own2 V2 { s with jn := jc } wr) := H
        clear H hRv hcells
        generalize hm : r.length = m at *
        have HM : Hid (r.length = m) := hm
        have hmx : (m : Int) < 9223372036854775807 := by unfold maxLen at hcm; omega
        clear hm hl hcap
        have hvr : V2 (.bls v) = .slice (some ⟨g, 0, none⟩) (jc.bls v).length cap := hvv
        have HVR : Hid (V2 (.bls v) = .slice (some ⟨g, 0, none⟩) (jc.bls v).length cap) := hvr
        have HLE : Hid (m ≤ (jc.bls v).length) := by show m ≤ (jc.bls v).length; have := HM.out; rw [hbv]; simp; omega
        clear hvv hvr
        go_wp2_with fail
        go_quiet (fail)
        have HQ : Hid (HV E own2 V2 { s with jn := jc } (wr.drewN nq)) := HH.out.drewN nq
        clear HH c9 d9 d9f hlast
        generalize wr.drewN nq = w2 at *
        have c9 : w2.cell? ⟨E.bs, 9, none⟩ = some (.slice (some ⟨b9, 0, none⟩) E.n E.n) := by rw [← e9]; exact HQ.out.mi.cell rfl
        have d9 : w2.cell? ⟨b9, v, none⟩ = some (.slice (some ⟨g, 0, none⟩) (m + 1) cap) := by
          rw [(HQ.out.cBls e9 hv).1, HVR.out, hbv]
          have := HM.out
          simp [this]
        have d9f := (HQ.out.cBls e9 hv).2
        go_wp2_with fail
        go_region
        have HP0 : Hid (HV E own2 (updV V2 (.bls v) (.slice (some ⟨g, 0, none⟩) m cap)) { s with jn := { jc with bls := upd jc.bls v ((jc.bls v).take m) } } (w2.setCell ⟨b9, v, none⟩ (.slice (some ⟨g, 0, none⟩) m cap)).drew) := (HQ.out.popBls v hv e9 HVR.out m HLE.out).drewN 1
        have htk : (jc.bls v).take m = (jc.bls v).dropLast := by rw [List.dropLast_eq_take, hbv]; congr 1; have := HM.out; simp; omega
        rw [htk] at HP0
        clear HQ c9 d9 d9f htk
        generalize (w2.setCell ⟨b9, v, none⟩ (.slice (some ⟨g, 0, none⟩) m cap)).drew = w3 at *
        generalize updV V2 (.bls v) (.slice (some ⟨g, 0, none⟩) m cap) = V3 at *
        obtain ⟨b8', e8⟩ := HP0.out.fx .blk rfl
        have c8 : w3.cell? ⟨E.bs, 8, none⟩ = some (.slice (some ⟨b8', 0, none⟩) E.n E.n) := by rw [← e8]; exact HP0.out.mi.cell rfl
        have d8 := (HP0.out.cBlk e8 hx).1
        dsimp only at d8
        have HUS : Hid (UnbL v s.jn r (unbS f v jc x)) := unb_step HU.out fun hb => unb_spec f x _ (unb_rec HF.out HU.out hb)
        have HFS : Hid (r.foldl (unbS f v) (unbS f v jc x) = unbP (f + 1) v s.jn) := HFO.out
        have HUB : Hid (unbS f v jc x = if jc.blk x then unbP f x { jc with bls := upd jc.bls v (jc.bls v).dropLast } else { jc with bls := upd jc.bls v (jc.bls v).dropLast }) := rfl
        cases hb : jc.blk x
        · rw [hb] at d8 HUB
          simp only [Bool.false_eq_true, if_false] at HUB
          have HEND : Hid (HI E { s with jn := unbS f v jc x } w3) := by show HI E { s with jn := unbS f v jc x } w3; rw [HUB.out]; exact ⟨own2, V3, HP0.out⟩
          clear HP0
          go_wp2_with fail
          go_roundg m
          case measure => rw [HGK.out]; have := HM.out; simp; omega
          case rel => exact ⟨r, _, HM.out.symm, HUS.out, HFS.out, HEND.out⟩
        · rw [hb] at d8 HUB
          simp only [if_true] at HUB
          have HFU : Hid (Fuel f x { jc with bls := upd jc.bls v (jc.bls v).dropLast }) := unb_rec HF.out HU.out hb
          have HL2 : Hid (∀ y u, u ∈ upd jc.bls v (jc.bls v).dropLast y → u < E.n) := fun y u hu => by
            by_cases e : y = v
            · subst e
              rw [upd_same] at hu
              exact HLT.out y u (HU.out.subl y u (List.dropLast_subset _ hu))
            · rw [upd_other _ _ e] at hu
              exact HLT.out y u (HU.out.subl y u hu)
          go_wp2_with fail
          refine (IH.out x _ w3 ⟨own2, V3, HP0.out⟩ hx HFU.out HL2.out).mono ?_
          rintro e w4 ⟨rfl, hh⟩
          have HEND : Hid (HI E { s with jn := unbS f v jc x } w4) := by show HI E { s with jn := unbS f v jc x } w4; rw [HUB.out]; exact hh
          clear hh HP0
          go_wp2_with fail
          go_roundg m
          case measure => rw [HGK.out]; have := HM.out; simp; omega
          case rel => exact ⟨r, _, HM.out.symm, HUS.out, HFS.out, HEND.out⟩
end Go.Proofs.Ybulkcyk
