/-
  (*search).loosest (function 14), its closure (17), slices.ContainsFunc and slices.IndexFunc (18, 22), walked.
-/
import Derived.Test.YbulkcykState3
import Derived.Test.YbulkcykUnb
import Derived.Test.YbulkcykCircPre
import Derived.Deep.CutBlock
namespace Go.Proofs.Ybulkcyk
open Go.RowKit
set_option linter.unusedSimpArgs false

/-- What the closure captures. -/
structure Cap (E : En) (v id a7 a2 a3 : Nat) (w : World) : Prop where
  h7 : w.cell? ⟨a7, 0, none⟩ = some (iv v)
  h2 : w.cell? ⟨a2, 0, none⟩ = some (.pointer (some ⟨E.bs, 0, none⟩))
  h3 : w.cell? ⟨a3, 0, none⟩ = some (iv id)
theorem Cap.drewN {E : En} {v id a7 a2 a3 : Nat} {w : World} (h : Cap E v id a7 a2 a3 w) (n : Nat) : Cap E v id a7 a2 a3 (w.drewN n) := ⟨h.h7, h.h2, h.h3⟩

set_option maxHeartbeats 800000 in
theorem clos17 {E : En} {own : Nat → Tag} {V : Tag → Value} {s : Hs} {w : World} (H : HV E own V s w) {v id x a7 a2 a3 : Nat} (C : Cap E v id a7 a2 a3 w) (hx : x < E.n) : Calls Yba.prog 17 #[iv x, .pointer (some ⟨a7, 0, none⟩), .pointer (some ⟨a2, 0, none⟩), .pointer (some ⟨a3, 0, none⟩)] w fun e w' => e = .returned (.bool (abv s.tj.pof id v x)) ∧ ∃ n, w' = w.drewN n := by
  obtain ⟨b4, e4⟩ := H.fx .pof rfl
  have c4 : w.cell? ⟨E.bs, 4, none⟩ = some (.slice (some ⟨b4, 0, none⟩) E.n E.n) := by rw [← e4]; exact H.mi.cell rfl
  have d4 : w.cell? ⟨b4, x, none⟩ = some (.int .i64 (s.tj.pof x)) := (H.cPof e4 hx).1
  have hx' : (x : Int) < (E.n : Int) := by omega
  obtain ⟨h7, h2, h3⟩ := C
  have HAB : Hid (abv s.tj.pof id v x = (decide (v < x) && decide (s.tj.pof x = (id : Int)))) := rfl
  clear H
  by_cases hv : v < x
  · have hv' : (v : Int) < (x : Int) := by omega
    have HB2 : Hid (abv s.tj.pof id v x = (s.tj.pof x == (id : Int))) := by show abv s.tj.pof id v x = _; rw [HAB.out, decide_eq_true hv]; rfl
    clear hv HAB
    go_enter Yba.func17, Yba.ntmps17
    go_wp2_with fail
    go_quiet (fail)
    go_wp2_with fail
    go_ret
    rw [HB2.out]
    exact ⟨rfl, _, rfl⟩
  · have hv' : decide ((v : Int) < (x : Int)) = false := decide_eq_false (by omega)
    have hv2 : decide (v < x) = false := decide_eq_false hv
    have HB2 : Hid (abv s.tj.pof id v x = false) := by show abv s.tj.pof id v x = _; rw [HAB.out, decide_eq_false hv]; rfl
    clear hv HAB
    go_enter Yba.func17, Yba.ntmps17
    go_wp2_with fail
    go_quiet (fail)
    go_wp2_with fail
    go_ret
    rw [HB2.out]
    exact ⟨rfl, _, rfl⟩

set_option maxHeartbeats 800000 in
theorem ixfun22 {E : En} {own : Nat → Tag} {V : Tag → Value} {s : Hs} {w : World} (H : HV E own V s w) {v id a7 a2 a3 : Nat} (C : Cap E v id a7 a2 a3 w) (p : Option Addr) (l : List Nat) (c : Nat) (hl : l.length ≤ maxLen) (h : SlR w p l) (hlt : ∀ x ∈ l, x < E.n) : Calls Yba.prog 22 #[.slice p l.length c, .func (.func 17) #[] #[.pointer (some ⟨a7, 0, none⟩), .pointer (some ⟨a2, 0, none⟩), .pointer (some ⟨a3, 0, none⟩)]] w fun e w' => (∃ z : Int, e = .returned (.int .i64 z) ∧ (0 ≤ z ↔ l.any (abv s.tj.pof id v) = true)) ∧ ∃ n, w' = w.drewN n := by
  have HS : Hid (SlR w p l) := h
  have HH : Hid (HV E own V s w) := H
  have HC : Hid (Cap E v id a7 a2 a3 w) := C
  have HLT : Hid (∀ x ∈ l, x < E.n) := hlt
  have hlm : (l.length : Int) ≤ 9223372036854775807 := by unfold maxLen at hl; omega
  clear h H C hlt
  go_enter Yba.func22, Yba.ntmps22
  go_wp2_with fail
  go_loopg [8] l.length (fun gn iv' wr => ∃ i m : Nat, gn = l.length - i ∧ i ≤ l.length ∧ iv' = iv i ∧ (∀ j, j < i → abv s.tj.pof id v (l.getD j 0) = false) ∧ w.drewN m = wr)
  case atStart => exact ⟨0, 0, rfl, Nat.zero_le _, rfl, fun j hj => by omega, rfl⟩
  case round =>
    obtain ⟨i, m, hgk, hi, rfl, hno, rfl⟩ := hrel
    have HGK : Hid (gk = l.length - i) := hgk
    have HNO : Hid (∀ j, j < i → abv s.tj.pof id v (l.getD j 0) = false) := hno
    clear hgk hno
    by_cases hlt : i < l.length
    · have hlt' : (i : Int) < (l.length : Int) := by omega
      obtain ⟨g, o, rfl, hc⟩ := HS.out (by omega)
      have hci : (w.drewN m).cell? ⟨g, o + i, none⟩ = some (iv (l.getD i 0)) := hc i hlt
      have HMM : Hid (l.getD i 0 ∈ l) := by
        show l.getD i 0 ∈ l
        rw [List.getD_eq_getElem?_getD, List.getElem?_eq_getElem hlt]
        exact List.getElem_mem hlt
      clear hc
      generalize hy : l.getD i 0 = y at hci HMM
      have HY : Hid (l.getD i 0 = y) := hy
      clear hy
      go_wp2_with fail
      refine (clos17 (HH.out.drewN m) (HC.out.drewN m) (HLT.out y HMM.out)).mono ?_
      rintro e w2 ⟨rfl, n2, rfl⟩
      cases he : abv s.tj.pof id v y
      · go_wp2_with fail
        go_roundg (l.length - (i + 1))
        case measure => rw [HGK.out]; omega
        case rel =>
          refine ⟨i + 1, m + n2, rfl, by omega, by go_num, fun j hj => ?_, rfl⟩
          by_cases e : j = i
          · subst e; rw [HY.out]; exact he
          · exact HNO.out j (by omega)
      · go_wp2_with fail
        go_ret
        exact ⟨⟨_, rfl, ⟨fun _ => List.any_eq_true.2 ⟨y, HMM.out, he⟩, fun _ => by omega⟩⟩, m + n2, rfl⟩
    · go_wp2_with fail
      go_ret
      refine ⟨⟨_, rfl, ⟨fun h => by omega, fun hm => ?_⟩⟩, _, rfl⟩
      exfalso
      obtain ⟨y, hy, hb⟩ := List.any_eq_true.1 hm
      obtain ⟨j, hj, e⟩ := List.getElem_of_mem hy
      have := HNO.out j (by omega)
      rw [List.getD_eq_getElem?_getD, List.getElem?_eq_getElem hj] at this
      simp only [Option.getD_some] at this
      rw [e, hb] at this
      cases this

theorem cfun18 {E : En} {own : Nat → Tag} {V : Tag → Value} {s : Hs} {w : World} (H : HV E own V s w) {v id a7 a2 a3 : Nat} (C : Cap E v id a7 a2 a3 w) (p : Option Addr) (l : List Nat) (c : Nat) (hl : l.length ≤ maxLen) (h : SlR w p l) (hlt : ∀ x ∈ l, x < E.n) : Calls Yba.prog 18 #[.slice p l.length c, .func (.func 17) #[] #[.pointer (some ⟨a7, 0, none⟩), .pointer (some ⟨a2, 0, none⟩), .pointer (some ⟨a3, 0, none⟩)]] w fun e w' => e = .returned (.bool (l.any (abv s.tj.pof id v))) ∧ ∃ n, w' = w.drewN n := by
  have HS : Hid (SlR w p l) := h
  have HH : Hid (HV E own V s w) := H
  have HC : Hid (Cap E v id a7 a2 a3 w) := C
  clear h H C
  go_enter Yba.func18, Yba.ntmps18
  go_wp2_with fail
  refine (ixfun22 HH.out HC.out p l c hl HS.out hlt).mono ?_
  rintro e w1 ⟨⟨z, rfl, hz⟩, n1, rfl⟩
  have HZ : Hid (decide (0 ≤ z) = l.any (abv s.tj.pof id v)) := by
    show decide (0 ≤ z) = _
    rw [Bool.eq_iff_iff, decide_eq_true_eq, hz]
  clear hz
  go_wp2
  go_ret
  refine ⟨?_, n1, rfl⟩
  rw [← HZ.out]
  rfl

structure RH (E : En) : Prop where
  lt : ∀ v, ∀ u ∈ E.R v, u < E.n
  len : ∀ v, (E.R v).length ≤ 7
theorem HV.memForm {E : En} {own : Nat → Tag} {V : Tag → Value} {s : Hs} {w : World} (h : HV E own V s w) {id : Nat} (hp : id < s.tj.np) : ∃ p cap, V (.mem id) = .slice p (s.mem id).length cap ∧ (s.mem id).length ≤ maxLen ∧ ∀ w', HV E own V s w' → SlR w' p (s.mem id) := by
  have hr := (h.mi.row (.mem id) _ (RwOf_mem hp)).1
  rcases hr.2 with ⟨e1, e2⟩ | ⟨g, cap, cur, h1, _, _, h4, h5, _⟩
  · have e2' : (s.mem id).length = 0 := e2
    refine ⟨none, 0, by rw [e2']; exact e1, by rw [e2']; exact Nat.zero_le _, fun w' _ h0 => by omega⟩
  · refine ⟨_, cap, h1, Nat.le_trans h4 h5, fun w' h' _ => ⟨g, _, rfl, fun i hi => ?_⟩⟩
    exact (h'.mi.row (.mem id) _ (RwOf_mem hp)).1.cell (i := i) (u := iv ((s.mem id).getD i 0)) h1 (by
      show ((s.mem id).map iv)[i]? = _
      rw [List.getElem?_map, List.getD_eq_getElem?_getD, List.getElem?_eq_getElem hi]
      rfl)
def LP (A R : Nat → List Nat) (pof : Nat → Int) (id : Nat) (l : List Nat) : Int :=
  match l.reverse.find? (fun v => !tied A R pof id v) with
  | some v => (v : Int)
  | none => -1
theorem LP_all (A R : Nat → List Nat) (pof : Nat → Int) (id : Nat) (ms : List Nat) : loosestP A R pof id ms = LP A R pof id (ms.take (ms.length - 1)) := by
  unfold loosestP LP
  rw [List.dropLast_eq_take]
  rfl
theorem LP_step (A R : Nat → List Nat) (pof : Nat → Int) (id : Nat) (ms : List Nat) (k : Nat) (h : k < ms.length) : LP A R pof id (ms.take (k + 1)) = if tied A R pof id (ms.getD k 0) then LP A R pof id (ms.take k) else (ms.getD k 0 : Int) := by
  unfold LP
  rw [List.take_add_one, List.getElem?_eq_getElem h, List.getD_eq_getElem?_getD, List.getElem?_eq_getElem h]
  simp only [Option.toList_some, List.reverse_append, List.reverse_cons, List.reverse_nil, List.nil_append, List.cons_append, List.find?_cons, Option.getD_some]
  cases tied A R pof id ms[k] <;> simp
theorem LP_nil (A R : Nat → List Nat) (pof : Nat → Int) (id : Nat) (ms : List Nat) : LP A R pof id (ms.take 0) = -1 := rfl
theorem grown_new (w : World) (cs : Array Value) (t : TypeId) (fr : Nat × Nat) (j : Nat) (x : Value) : w.grownBy ((w.alloc (.cells cs t fr)).setCell ⟨w.heap.size, j, none⟩ x) none := by
  have h1 := World.grownBy_alloc w (.cells cs t fr) none
  have h2 := grown_setCell (w.alloc (.cells cs t fr)) ⟨w.heap.size, j, none⟩ x
  refine ⟨h2.os.trans h1.os, h2.tape.trans h1.tape, h2.output.trans h1.output, Nat.le_trans h1.size h2.size, fun k hk _ => ?_⟩
  rw [h2.block k (Nat.lt_of_lt_of_le hk h1.size) (by simp; omega)]
  exact h1.block k hk (by simp)
theorem cell_grown {w w' : World} (h : w.grownBy w' none) {a : Addr} {v : Value} (hc : w.cell? a = some v) : w'.cell? a = some v := by
  have hb : a.block < w.heap.size := by
    rcases Nat.lt_or_ge a.block w.heap.size with q | q
    · exact q
    · simp [World.cell?, Array.getElem?_eq_none q] at hc
  rw [World.cell?_of_block (h.block a.block hb (by simp))]
  exact hc

set_option maxRecDepth 10000 in
set_option maxHeartbeats 1600000 in
theorem loosest14 {E : En} (X : EH E) (RX : RH E) {own : Nat → Tag} {V : Tag → Value} {s : Hs} {w : World} (H : HV E own V s w) {id : Nat} (hid : id < s.tj.np) (hm : ∀ u ∈ s.mem id, u < E.n) : Calls Yba.prog 14 #[.pointer (some ⟨E.bs, 0, none⟩), iv id] w fun e w' => e = .returned (.int .i64 (loosestP E.A E.R s.tj.pof id (s.mem id))) ∧ w.grownBy w' none := by
  have HX : Hid (EH E) := X
  have HRX : Hid (RH E) := RX
  have HM : Hid (∀ u ∈ s.mem id, u < E.n) := hm
  obtain ⟨p5, k5, e5, hlm, hsl⟩ := H.memForm hid
  have HSL : Hid (∀ w', HV E own V s w' → SlR w' p5 (s.mem id)) := hsl
  have hlm' : ((s.mem id).length : Int) ≤ 9223372036854775807 := by unfold maxLen at hlm; omega
  obtain ⟨gp, kp, ep, hnp, hkp, hcp, _⟩ := H.prtForm (by omega)
  have HH : Hid (HV E own V s w) := H
  have hid' : (id : Int) < (s.tj.np : Int) := by omega
  clear X RX hm hsl hcp H
  go_enter Yba.func14, Yba.ntmps14
  go_upto_region 1 with fail
  have HG1 : Hid (w.grownBy ((w.alloc (.cells #[.pointer (some ⟨E.bs, 0, none⟩)] 25)).alloc (.cells #[iv id] 3)) none) := grown_trans (World.grownBy_alloc _ _ _) (World.grownBy_alloc _ _ _)
  have HV1 : Hid (HV E own V s ((w.alloc (.cells #[.pointer (some ⟨E.bs, 0, none⟩)] 25)).alloc (.cells #[iv id] 3))) := HH.out.grow HG1.out
  have c2 : ((w.alloc (.cells #[.pointer (some ⟨E.bs, 0, none⟩)] 25)).alloc (.cells #[iv id] 3)).cell? ⟨w.heap.size, 0, none⟩ = some (.pointer (some ⟨E.bs, 0, none⟩)) := by simp
  have c3 : ((w.alloc (.cells #[.pointer (some ⟨E.bs, 0, none⟩)] 25)).alloc (.cells #[iv id] 3)).cell? ⟨w.heap.size + 1, 0, none⟩ = some (iv id) := by simp
  clear HH
  generalize (w.alloc (.cells #[.pointer (some ⟨E.bs, 0, none⟩)] 25)).alloc (.cells #[iv id] 3) = w1 at *
  generalize hs3 : w.heap.size + 1 = a3 at *
  clear hs3
  generalize w.heap.size = a2 at *
  have c5 : w1.cell? ⟨E.bs, 5, none⟩ = some (.slice (some ⟨gp, 0, none⟩) s.tj.np kp) := by rw [← ep]; exact HV1.out.mi.cell rfl
  have dm : w1.cell? ⟨gp, id * 2, none⟩ = some (.slice p5 (s.mem id).length k5) := by
    obtain ⟨g', k', e', _, _, hc', _⟩ := HV1.out.prtForm (by omega)
    rw [ep] at e'
    cases e'
    rw [(hc' id hid).1, e5]
  have C2 : Hid (w1.cell? ⟨a2, 0, none⟩ = some (.pointer (some ⟨E.bs, 0, none⟩))) := c2
  have C3 : Hid (w1.cell? ⟨a3, 0, none⟩ = some (iv id)) := c3
  go_wp2_with fail
  go_quiet (fail)
  have HV2 : Hid (HV E own V s (w1.drewN nq)) := HV1.out.drewN nq
  have HG2 : Hid (w.grownBy (w1.drewN nq) none) := grown_trans HG1.out (grown_drewN _ _)
  have D2 : Hid ((w1.drewN nq).cell? ⟨a2, 0, none⟩ = some (.pointer (some ⟨E.bs, 0, none⟩))) := C2.out
  have D3 : Hid ((w1.drewN nq).cell? ⟨a3, 0, none⟩ = some (iv id)) := C3.out
  clear HV1 HG1 c2 c3 c5 dm C2 C3
  generalize w1.drewN nq = w2 at *
  have HL0 : Hid (loosestP E.A E.R s.tj.pof id (s.mem id) = LP E.A E.R s.tj.pof id ((s.mem id).take ((s.mem id).length - 1))) := LP_all _ _ _ _ _
  go_wp2_with fail
  go_loopg [6] ((s.mem id).length - 1) (fun gn iv' wr => ∃ (k : Nat) (z : Int), gn = k ∧ k ≤ (s.mem id).length ∧ ((z + 1 = (k : Int)) ∨ (z < 0 ∧ k = 0)) ∧ iv' = .int .i64 z ∧ loosestP E.A E.R s.tj.pof id (s.mem id) = LP E.A E.R s.tj.pof id ((s.mem id).take k) ∧ HV E own V s wr ∧ w.grownBy wr none ∧ wr.cell? ⟨a2, 0, none⟩ = some (.pointer (some ⟨E.bs, 0, none⟩)) ∧ wr.cell? ⟨a3, 0, none⟩ = some (iv id))
  case atStart => exact ⟨_, _, rfl, Nat.sub_le _ _, by omega, rfl, HL0.out, HV2.out, HG2.out, D2.out, D3.out⟩
  case round =>
    clear HV2 HG2 D2 D3 HL0
    obtain ⟨k, z, hgk, hk, hkz, rfl, hl, hV, hG, hc2, hc3⟩ := hrel
    have HGK : Hid (gk = k) := hgk
    have HL : Hid (loosestP E.A E.R s.tj.pof id (s.mem id) = LP E.A E.R s.tj.pof id ((s.mem id).take k)) := hl
    have HV3 : Hid (HV E own V s wr) := hV
    have HG3 : Hid (w.grownBy wr none) := hG
    have D2 : Hid (wr.cell? ⟨a2, 0, none⟩ = some (.pointer (some ⟨E.bs, 0, none⟩))) := hc2
    have D3 : Hid (wr.cell? ⟨a3, 0, none⟩ = some (iv id)) := hc3
    clear hgk hl hV hG hc2 hc3
    by_cases hz : 0 ≤ z
    · obtain ⟨m, rfl⟩ : ∃ m : Nat, k = m + 1 := ⟨k - 1, by omega⟩
      obtain rfl : z = (m : Int) := by omega
      have hm' : (m : Int) < ((s.mem id).length : Int) := by omega
      obtain ⟨g, o, rfl, hc⟩ := HSL.out wr HV3.out (by omega)
      have hci := hc m (by omega)
      have HXm : Hid ((s.mem id).getD m 0 ∈ s.mem id) := by
        show (s.mem id).getD m 0 ∈ s.mem id
        rw [List.getD_eq_getElem?_getD, List.getElem?_eq_getElem (by omega)]; exact List.getElem_mem _
      have HST : Hid (loosestP E.A E.R s.tj.pof id (s.mem id) = if tied E.A E.R s.tj.pof id ((s.mem id).getD m 0) then LP E.A E.R s.tj.pof id ((s.mem id).take m) else (((s.mem id).getD m 0 : Nat) : Int)) := HL.out.trans (LP_step _ _ _ _ _ _ (by omega))
      clear hc hkz HL
      generalize (s.mem id).getD m 0 = x at *
      have hxn : x < E.n := HM.out x HXm.out
      have hxn' : (x : Int) < (E.n : Int) := by omega
      go_upto_region 6 with fail
      have HG4 : Hid (w.grownBy (wr.alloc (.cells #[iv x] 3)) none) := grown_trans HG3.out (World.grownBy_alloc _ _ _)
      have HV4 : Hid (HV E own V s (wr.alloc (.cells #[iv x] 3))) := HV3.out.alloc _
      have c2 : (wr.alloc (.cells #[iv x] 3)).cell? ⟨a2, 0, none⟩ = some (.pointer (some ⟨E.bs, 0, none⟩)) := cell_grown (World.grownBy_alloc _ _ _) D2.out
      have c3 : (wr.alloc (.cells #[iv x] 3)).cell? ⟨a3, 0, none⟩ = some (iv id) := cell_grown (World.grownBy_alloc _ _ _) D3.out
      have c7 : (wr.alloc (.cells #[iv x] 3)).cell? ⟨wr.heap.size, 0, none⟩ = some (iv x) := by simp
      clear HV3 HG3 D2 D3 hci
      generalize wr.alloc (.cells #[iv x] 3) = w4 at *
      generalize wr.heap.size = a7 at *
      have HC : Hid (Cap E x id a7 a2 a3 w4) := ⟨c7, c2, c3⟩
      obtain ⟨ga, ca, pA, cA, ea, hadj⟩ := HX.out.adj.at hxn
      obtain ⟨gr, cr, pR, cR, er, hrad⟩ := HX.out.rad.at hxn
      have c0 : w4.cell? ⟨E.bs, 0, none⟩ = some (.slice (some ⟨ga, 0, none⟩) E.n ca) := by rw [← ea]; exact HV4.out.mi.cell rfl
      have c1 : w4.cell? ⟨E.bs, 1, none⟩ = some (.slice (some ⟨gr, 0, none⟩) E.n cr) := by rw [← er]; exact HV4.out.mi.cell rfl
      have a0 := (hadj _ _ _ _ HV4.out).1
      have r0 := (hrad _ _ _ _ HV4.out).1
      have HSA : Hid (∀ n, SlR (w4.drewN n) pA (E.A x)) := fun n => (hadj _ _ _ _ (HV4.out.drewN n)).2
      have HSR : Hid (∀ n, SlR (w4.drewN n) pR (E.R x)) := fun n => (hrad _ _ _ _ (HV4.out.drewN n)).2
      have hAl : (E.A x).length ≤ maxLen := by have h1 := sorted_len (HX.out.srt x) (HX.out.lt x); have h2 := HX.out.n7; unfold maxLen; omega
      have hRl : (E.R x).length ≤ maxLen := by have h1 := HRX.out.len x; unfold maxLen; omega
      have HTD : Hid (tied E.A E.R s.tj.pof id x = ((E.A x).any (abv s.tj.pof id x) && (E.R x).any (abv s.tj.pof id x))) := rfl
      clear hadj hrad ea er
      cases hA : (E.A x).any (abv s.tj.pof id x)
      · have HTI : Hid (tied E.A E.R s.tj.pof id x = false) := by show tied E.A E.R s.tj.pof id x = false; rw [HTD.out, hA]; rfl
        go_wp2_with fail
        go_quiet (first | (go_at_call 18; refine Calls.quiet_of ((cfun18 (HV4.out.drewN _) (HC.out.drewN _) pA (E.A x) cA hAl (HSA.out _) (HX.out.lt x)).mono fun _ _ h => ⟨by rw [h.1, hA], h.2⟩)) | (go_at_call 18; refine Calls.quiet_of ((cfun18 (HV4.out.drewN _) (HC.out.drewN _) pR (E.R x) cR hRl (HSR.out _) (HRX.out.lt x)).mono fun _ _ h => ⟨by rw [h.1, hR], h.2⟩)))
        go_wp2_with fail
        go_ret
        rw [HST.out, if_neg (by rw [HTI.out]; simp)]
        exact ⟨rfl, grown_trans HG4.out (grown_drewN _ _)⟩
      · cases hR : (E.R x).any (abv s.tj.pof id x)
        · have HTI : Hid (tied E.A E.R s.tj.pof id x = false) := by show tied E.A E.R s.tj.pof id x = false; rw [HTD.out, hA, hR]; rfl
          go_wp2_with fail
          go_quiet (first | (go_at_call 18; refine Calls.quiet_of ((cfun18 (HV4.out.drewN _) (HC.out.drewN _) pA (E.A x) cA hAl (HSA.out _) (HX.out.lt x)).mono fun _ _ h => ⟨by rw [h.1, hA], h.2⟩)) | (go_at_call 18; refine Calls.quiet_of ((cfun18 (HV4.out.drewN _) (HC.out.drewN _) pR (E.R x) cR hRl (HSR.out _) (HRX.out.lt x)).mono fun _ _ h => ⟨by rw [h.1, hR], h.2⟩)))
          go_wp2_with fail
          go_ret
          rw [HST.out, if_neg (by rw [HTI.out]; simp)]
          exact ⟨rfl, grown_trans HG4.out (grown_drewN _ _)⟩
        · have HTI : Hid (tied E.A E.R s.tj.pof id x = true) := by show tied E.A E.R s.tj.pof id x = true; rw [HTD.out, hA, hR]; rfl
          have HNX : Hid (loosestP E.A E.R s.tj.pof id (s.mem id) = LP E.A E.R s.tj.pof id ((s.mem id).take m)) := by show loosestP E.A E.R s.tj.pof id (s.mem id) = _; rw [HST.out, if_pos HTI.out]
          go_wp2_with fail
          go_quiet (first | (go_at_call 18; refine Calls.quiet_of ((cfun18 (HV4.out.drewN _) (HC.out.drewN _) pA (E.A x) cA hAl (HSA.out _) (HX.out.lt x)).mono fun _ _ h => ⟨by rw [h.1, hA], h.2⟩)) | (go_at_call 18; refine Calls.quiet_of ((cfun18 (HV4.out.drewN _) (HC.out.drewN _) pR (E.R x) cR hRl (HSR.out _) (HRX.out.lt x)).mono fun _ _ h => ⟨by rw [h.1, hR], h.2⟩)))
          have HV5 : Hid (HV E own V s (w4.drewN nq)) := HV4.out.drewN nq
          have HG5 : Hid (w.grownBy (w4.drewN nq) none) := grown_trans HG4.out (grown_drewN _ _)
          have HC5 : Hid (Cap E x id a7 a2 a3 (w4.drewN nq)) := HC.out.drewN nq
          clear HC HV4 HG4 c0 c1 c2 c3 c7 a0 r0 HSA HSR
          go_wp2_with fail
          go_roundg m
          case measure => rw [HGK.out]; omega
          case rel => exact ⟨m, _, rfl, by omega, .inl (by omega), rfl, HNX.out, HV5.out, HG5.out, HC5.out.h2, HC5.out.h3⟩
    · obtain rfl : k = 0 := by omega
      rw [LP_nil] at HL
      go_wp2_with fail
      go_ret
      rw [HL.out]
      exact ⟨rfl, HG3.out⟩
end Go.Proofs.Ybulkcyk
