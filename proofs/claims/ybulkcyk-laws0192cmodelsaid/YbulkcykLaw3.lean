/-
  LawS0192CModel (function 3), walked.
-/
import Derived.Test.YbulkcykLawPre
import Derived.Test.YbulkcykDfs
namespace Go.Proofs.Ybulkcyk
open Go.RowKit
set_option linter.unusedSimpArgs false

structure LI (D : Dn) (num : Int) (i : Nat) (d : Ds) : Prop where
  out : d.out = modelP D.A D.lim D.n i { cyc := [], num := num, more := false }
  path : d.path = []
  onp : d.onp = fun _ => false
  cyc : d.out.cyc.length ≤ i * 5764801
  nu : d.out.num ≤ 9223372036854775807
theorem li0 (D : Dn) (num : Int) (h : num ≤ 9223372036854775807) : LI D num 0 (ds0 num) := ⟨rfl, rfl, rfl, Nat.le_refl _, h⟩
theorem LI.step {D : Dn} {num : Int} {i : Nat} {d : Ds} (h : LI D num i d) (H : DH D) (hm : d.out.more = false) (st : Int) : LI D num (i + 1) { d with out := dfsP D.A D.lim i (D.n + 1) [] i d.out, start := st } := by
  refine ⟨?_, h.path, h.onp, ?_, dfsP_num _ _ _ _ _ h.nu⟩
  · show dfsP D.A D.lim i (D.n + 1) [] i d.out = (if (modelP D.A D.lim D.n i { cyc := [], num := num, more := false }).more then _ else dfsP D.A D.lim i (D.n + 1) [] i (modelP D.A D.lim D.n i { cyc := [], num := num, more := false }))
    rw [← h.out, if_neg (by rw [hm]; simp)]
  · show (dfsP D.A D.lim i (D.n + 1) [] i d.out).cyc.length ≤ (i + 1) * 5764801
    have h7 : ∀ v, ∀ w ∈ D.A v, w < 7 := fun v w hw => by have h1 := H.lt v w hw; have h2 := H.n7; omega
    have a := dfsP_len (lim := D.lim) (st := i) (n := 7) (by omega) H.srt h7 (D.n + 1) [] i d.out
    have b : (7 : Nat) ^ (D.n + 1) ≤ 7 ^ 8 := Nat.pow_le_pow_right (by omega) (by have := H.n7; omega)
    have c : (7 : Nat) ^ 8 = 5764801 := by decide
    have e := h.cyc
    rw [Nat.succ_mul]
    generalize i * 5764801 = z at *
    omega
theorem LI.pre {D : Dn} {num : Int} {i : Nat} {d : Ds} (h : LI D num i d) (H : DH D) (hi : i < D.n) : DPre D i (D.n + 1) [] i { d with start := (i : Int), onp := upd d.onp i true } := by
  refine ⟨h.path, rfl, ?_, List.nodup_nil, fun u hu => absurd hu (by simp), by simp, hi, rfl, h.nu, ?_⟩
  · show upd d.onp i true = _
    rw [h.onp]
    funext u
    by_cases e : u = i
    · subst e; simp [upd]
    · simp [upd, e]
  · have h1 : (7 : Nat) ^ (D.n + 1) ≤ 7 ^ 8 := Nat.pow_le_pow_right (by omega) (by have := H.n7; omega)
    have h2 : (7 : Nat) ^ 8 = 5764801 := by decide
    have h3 := h.cyc
    have h4 : i * 5764801 ≤ 7 * 5764801 := Nat.mul_le_mul_right _ (by have := H.n7; omega)
    show d.out.cyc.length + 7 ^ (D.n + 1) ≤ 1000000000
    omega
theorem LI.back {D : Dn} {num : Int} {i : Nat} {d : Ds} (h : LI D num i d) : upd (upd d.onp i true) i false = d.onp := by
  rw [h.onp]
  funext u
  by_cases e : u = i <;> simp [upd, e]
theorem LI.fin {D : Dn} {num : Int} {i : Nat} {d : Ds} (h : LI D num i d) (hi : i ≤ D.n) (hc : i = D.n ∨ d.out.more = true) : d.out = modelP D.A D.lim D.n D.n { cyc := [], num := num, more := false } := by
  rcases hc with q | q
  · have := h.out
    rw [q] at this
    exact this
  · rw [h.out] at q ⊢
    have := modelP_more D.A D.lim D.n _ i q (D.n - i)
    rw [show i + (D.n - i) = D.n by omega] at this
    exact this.symm

set_option maxRecDepth 10000 in
set_option maxHeartbeats 8000000 in
theorem law3 (a0 : Int) (h00 : 0 ≤ a0) (h01 : a0 < 256) (pm : Option Addr) (len cap : Nat) (z : Nat → Int) (lim num : Int) (w : World) (hlc : len ≤ maxLen) (hz : ∀ v, v < len → 0 ≤ z v ∧ z v < 256) (hm : ∀ v, v < len → ∃ x, pm = some x ∧ w.cell? (x.add v) = some (.int .u8 (z v))) (hnum : num ≤ 9223372036854775807) :
    Calls Yba.prog 3 #[.int .u8 a0, .slice pm len cap, .int .i64 lim, .int .i64 num] w fun e w' => e = .returned (.bool true) ∧ Below w.heap.size w w' := by
  have HM : Hid (∀ v, v < len → ∃ x, pm = some x ∧ w.cell? (x.add v) = some (.int .u8 (z v))) := hm
  have HZ : Hid (∀ v, v < len → 0 ≤ z v ∧ z v < 256) := hz
  obtain ⟨n, hn⟩ : ∃ n : Nat, a0 % 8 = (n : Int) := ⟨(a0 % 8).toNat, by omega⟩
  have hn7 : n ≤ 7 := by omega
  have hnt : a0.tmod 8 = (n : Int) := by rw [Int.tmod_eq_emod_of_nonneg h00]; exact hn
  clear hm hz
  go_enter Yba.func3, Yba.ntmps3
  go_wp2_with fail
  refine (adj5 n len cap pm z w hn7 hlc HZ.out HM.out).mono ?_
  rintro e w1 ⟨rfl, own1, V1, hAD⟩
  have hsz1 := hAD.mi.sz
  have HMI : Hid (MI w (w1.alloc (.cells #[sl w.heap.size n, .slice none 0 0, .int .i64 lim, .int .i64 num, .slice none 0 0, .slice none 0 0, .int .i64 0, .int .i64 0, .slice none 0 0, .slice none 0 0, .slice none 0 0, .slice none 0 0, .int .i64 0, .slice none 0 0, .slice none 0 0, .slice none 0 0, .slice none 0 0, .int .i64 0, .slice none 0 0, .bool false] 30)) w1.heap.size (w1.alloc (.cells #[sl w.heap.size n, .slice none 0 0, .int .i64 lim, .int .i64 num, .slice none 0 0, .slice none 0 0, .int .i64 0, .int .i64 0, .slice none 0 0, .slice none 0 0, .slice none 0 0, .slice none 0 0, .int .i64 0, .slice none 0 0, .slice none 0 0, .slice none 0 0, .slice none 0 0, .int .i64 0, .slice none 0 0, .bool false] 30)).heap.size 30 (fun _ => .held) (cs0 (sl w.heap.size n) (.slice none 0 0) lim num) (fun _ => none) (w1.alloc (.cells #[sl w.heap.size n, .slice none 0 0, .int .i64 lim, .int .i64 num, .slice none 0 0, .slice none 0 0, .int .i64 0, .int .i64 0, .slice none 0 0, .slice none 0 0, .slice none 0 0, .slice none 0 0, .int .i64 0, .slice none 0 0, .slice none 0 0, .slice none 0 0, .slice none 0 0, .int .i64 0, .slice none 0 0, .bool false] 30))) := ⟨hAD.mi.bel.alloc (by omega) _, by omega, by simp, Nat.le_refl _, fun _ _ _ => rfl, heap_alloc_new w1 _, fun t q hq => by cases hq⟩
  have HL : Hid (Lists (w1.alloc (.cells #[sl w.heap.size n, .slice none 0 0, .int .i64 lim, .int .i64 num, .slice none 0 0, .slice none 0 0, .int .i64 0, .int .i64 0, .slice none 0 0, .slice none 0 0, .slice none 0 0, .slice none 0 0, .int .i64 0, .slice none 0 0, .slice none 0 0, .slice none 0 0, .slice none 0 0, .int .i64 0, .slice none 0 0, .bool false] 30)) w1.heap.size (w1.alloc (.cells #[sl w.heap.size n, .slice none 0 0, .int .i64 lim, .int .i64 num, .slice none 0 0, .slice none 0 0, .int .i64 0, .int .i64 0, .slice none 0 0, .slice none 0 0, .slice none 0 0, .slice none 0 0, .int .i64 0, .slice none 0 0, .slice none 0 0, .slice none 0 0, .slice none 0 0, .int .i64 0, .slice none 0 0, .bool false] 30)).heap.size n (sl w.heap.size n) (gA n len z)) := hAD.lists.boxed _
  clear hAD HM HZ hsz1 hn hnt
  go_upto_region 4 with fail
  generalize (w1.alloc (.cells #[sl w.heap.size n, .slice none 0 0, .int .i64 lim, .int .i64 num, .slice none 0 0, .slice none 0 0, .int .i64 0, .int .i64 0, .slice none 0 0, .slice none 0 0, .slice none 0 0, .slice none 0 0, .int .i64 0, .slice none 0 0, .slice none 0 0, .slice none 0 0, .slice none 0 0, .int .i64 0, .slice none 0 0, .bool false] 30)) = w2 at *
  generalize w1.heap.size = bs at *
  have HGL : Hid (∀ v, ∀ u ∈ gA n len z v, u < n) := gA_lt
  have HGS : Hid (∀ v, (gA n len z v).Pairwise (· < ·)) := gA_srt
  generalize gA n len z = A at *
  go_wp2_with fail
  refine (run6 (w0 := w) (bs := bs) (B := w2.heap.size) rfl HMI.out HL.out HGL.out HGS.out hn7 hnum).mono ?_
  rintro e w3 ⟨rfl, E, s, e1, e2, e3, hkp, hEB, hHI, hout⟩
  obtain ⟨ownS, VS, hVS⟩ := hHI
  have HBW : Hid (Below w.heap.size w w3) := by show Below w.heap.size w w3; have h := hVS.mi.bel; rw [e1] at h; exact h
  have hs23 : w2.heap.size ≤ w3.heap.size := Nat.le_trans hEB hVS.mi.sz
  have hsw3 : w.heap.size ≤ w3.heap.size := HBW.out.size
  have C19 : Hid (w3.cell? ⟨bs, 19, none⟩ = some (.bool s.out.more)) := by show w3.cell? ⟨bs, 19, none⟩ = _; rw [← e2]; exact hVS.mi.cell rfl
  obtain ⟨pS, kS, eS, hLS, hl1, hl2⟩ := hVS.llr
  have C18 : Hid (w3.cell? ⟨bs, 18, none⟩ = some (.slice pS s.out.cyc.length kS)) := by show w3.cell? ⟨bs, 18, none⟩ = _; rw [← e2, ← eS]; exact hVS.mi.cell rfl
  have HLS : Hid (LLR w3 pS s.out.cyc) := hLS
  have HL1 : Hid (s.out.cyc.length ≤ maxLen) := hl1
  have HL2 : Hid (∀ i, (s.out.cyc.getD i []).length ≤ maxLen) := hl2
  have HKP : Hid (∀ y, y < w2.heap.size → y ≠ bs → w3.heap[y]? = w2.heap[y]?) := hkp
  generalize s.out = so at *
  have HSO : Hid (so = modelP A lim n n { cyc := [], num := num, more := false }) := hout
  clear e1 e2 e3 hkp hEB hVS hLS hl1 hl2 eS HMI hout
  obtain ⟨adjv, hav⟩ : ∃ v, v = sl w.heap.size n := ⟨_, rfl⟩
  have hmk := mk28 n (by omega)
  go_upto_region 6 with fail
  clear hmk
  rw [← hav]
  rw [← hav] at HL
  obtain ⟨D, d1, d2, d3, d4, d5, d6, d7, d8, d9, hDI⟩ : ∃ D : Dn, D.w0 = w3 ∧ D.w1 = ((w3.alloc (.cells (madeCells #[.bool false] n) 4)).alloc (.cells #[adjv, .int .i64 0, .slice none 0 0, .slice (some ⟨w3.heap.size, 0, none⟩) n n, .slice none 0 0, .bool false, .int .i64 lim, .int .i64 num] 33)) ∧ D.bs = w3.heap.size + 1 ∧ D.ob = w3.heap.size ∧ D.B = w3.heap.size + 1 ∧ D.n = n ∧ D.adjv = adjv ∧ D.lim = lim ∧ D.A = A ∧ DI D (ds0 num) ((w3.alloc (.cells (madeCells #[.bool false] n) 4)).alloc (.cells #[adjv, .int .i64 0, .slice none 0 0, .slice (some ⟨w3.heap.size, 0, none⟩) n n, .slice none 0 0, .bool false, .int .i64 lim, .int .i64 num] 33)) := ⟨⟨w3, _, w3.heap.size + 1, w3.heap.size, w3.heap.size + 1, n, adjv, lim, A⟩, rfl, rfl, rfl, rfl, rfl, rfl, rfl, rfl, rfl, dv0 w3 n adjv lim num A⟩
  have HDH : Hid (DH D) := by
    refine ⟨by rw [d6]; exact hn7, by rw [d6, d9]; exact HGL.out, by rw [d9]; exact HGS.out, ?_⟩
    rw [d2, d4, d5, d6, d7, d9]
    refine HL.out.later (fun y hy hne => ?_) hs23 (by omega)
    rw [(World.grownBy_alloc _ _ none).block y (by simp; omega) (by simp), (World.grownBy_alloc _ _ none).block y (by omega) (by simp)]
    exact HKP.out y hy hne
  have HDI : Hid (DI D (ds0 num) ((w3.alloc (.cells (madeCells #[.bool false] n) 4)).alloc (.cells #[adjv, .int .i64 0, .slice none 0 0, .slice (some ⟨w3.heap.size, 0, none⟩) n n, .slice none 0 0, .bool false, .int .i64 lim, .int .i64 num] 33))) := hDI
  rw [← d3]
  have D1 : Hid (D.w0 = w3) := d1
  clear hDI hav HL HKP HGL HGS d1 d2 d3 d4 d5 d7
  generalize ((w3.alloc (.cells (madeCells #[.bool false] n) 4)).alloc (.cells #[adjv, .int .i64 0, .slice none 0 0, .slice (some ⟨w3.heap.size, 0, none⟩) n n, .slice none 0 0, .bool false, .int .i64 lim, .int .i64 num] 33)) = w4 at *
  subst d6 d8 d9
  go_upto_block 0 with fail
  go_cut [] (fun wx => ∃ d, DI D d wx ∧ d.out = modelP D.A D.lim D.n D.n { cyc := [], num := num, more := false })
  case first =>
    go_wp2_with fail
    go_loopg [13] D.n (fun gn kv wr => ∃ (i : Nat) (d : Ds), gn = D.n - i ∧ i ≤ D.n ∧ kv = iv i ∧ LI D num i d ∧ DI D d wr)
    case atStart => exact ⟨0, _, rfl, Nat.zero_le _, rfl, li0 D num hnum, HDI.out⟩
    case round =>
      clear HDI
      obtain ⟨i, d, hgi, hin, rfl, hI, own5, V5, hV5⟩ := hrel
      have HGI : Hid (gk = D.n - i) := hgi
      have HI5 : Hid (LI D num i d) := hI
      have HV5 : Hid (DV D own5 V5 d wr) := hV5
      have c5 : wr.cell? ⟨D.bs, 5, none⟩ = some (.bool d.out.more) := hV5.cell rfl
      clear hgi hI hV5
      by_cases hlt : i < D.n
      · have hlt' : (i : Int) < (D.n : Int) := by omega
        cases hmo : d.out.more
        · rw [hmo] at c5
          have c1 : wr.cell? ⟨D.bs, 1, none⟩ = some (.int .i64 d.start) := HV5.out.cell rfl
          have f1 : wr.frozen? ⟨D.bs, 1, none⟩ = false := HV5.out.frozen 1
          have HV6 : Hid (DV D own5 V5 { d with start := (i : Int) } (wr.setCell ⟨D.bs, 1, none⟩ (.int .i64 (i : Int)))) := HV5.out.setStart _
          have HDP : Hid (DPre D i (D.n + 1) [] i { d with start := (i : Int), onp := upd d.onp i true }) := HI5.out.pre HDH.out hlt
          have HLN : Hid (LI D num (i + 1) { d with out := dfsP D.A D.lim i (D.n + 1) [] i d.out, start := (i : Int) }) := HI5.out.step HDH.out hmo _
          have HBK : Hid (upd (upd d.onp i true) i false = d.onp) := HI5.out.back
          clear HV5
          go_upto_region 10 with fail
          clear c5 c1 f1
          generalize wr.setCell ⟨D.bs, 1, none⟩ (.int .i64 (i : Int)) = w6 at *
          have c3 : w6.cell? ⟨D.bs, 3, none⟩ = some (.slice (some ⟨D.ob, 0, none⟩) D.n D.n) := HV6.out.cell rfl
          obtain ⟨d3', d3f⟩ := HV6.out.cOn hlt
          have HV7 : Hid (DV D own5 V5 { d with start := (i : Int), onp := upd d.onp i true } (w6.setCell ⟨D.ob, i, none⟩ (.bool true))) := HV6.out.setOn i true
          clear HV6
          go_upto_region 11 with fail
          clear c3 d3' d3f
          generalize w6.setCell ⟨D.ob, i, none⟩ (.bool true) = w7 at *
          go_wp2_with fail
          refine (dfs7 HDH.out i (D.n + 1) [] i _ w7 ⟨_, _, HV7.out⟩ HDP.out).mono ?_
          rintro e w8 ⟨rfl, own8, V8, hV8⟩
          have HV8 : Hid (DV D own8 V8 { d with start := (i : Int), onp := upd d.onp i true, out := dfsP D.A D.lim i (D.n + 1) [] i d.out } w8) := hV8
          have c3 : w8.cell? ⟨D.bs, 3, none⟩ = some (.slice (some ⟨D.ob, 0, none⟩) D.n D.n) := HV8.out.cell rfl
          obtain ⟨d3', d3f⟩ := HV8.out.cOn hlt
          have HH9 : Hid (DI D { d with out := dfsP D.A D.lim i (D.n + 1) [] i d.out, start := (i : Int) } (w8.setCell ⟨D.ob, i, none⟩ (.bool false))) := by
            have h := HV8.out.setOn i false
            dsimp only at h
            rw [HBK.out] at h
            exact ⟨_, _, h⟩
          clear hV8 HV8 HV7 HDP HBK
          go_wp2_with fail
          go_roundg (D.n - (i + 1))
          case measure => rw [HGI.out]; omega
          case rel => exact ⟨i + 1, _, rfl, by omega, by go_num, HLN.out, HH9.out⟩
        · rw [hmo] at c5
          have HFI : Hid (d.out = modelP D.A D.lim D.n D.n { cyc := [], num := num, more := false }) := HI5.out.fin hin (.inr hmo)
          go_wp2_with fail
          go_meet
          exact ⟨_, ⟨_, _, HV5.out⟩, HFI.out⟩
      · have hlt' : decide ((i : Int) < (D.n : Int)) = false := decide_eq_false (by omega)
        have hlt2 : decide (i < D.n) = false := decide_eq_false hlt
        have HFI : Hid (d.out = modelP D.A D.lim D.n D.n { cyc := [], num := num, more := false }) := HI5.out.fin hin (.inl (by omega))
        clear hlt
        go_wp2_with fail
        go_meet
        exact ⟨_, ⟨_, _, HV5.out⟩, HFI.out⟩
  case rest =>
    obtain ⟨d, ⟨own5, V5, hV5⟩, hdo⟩ := hcut
    obtain rfl : so = d.out := by rw [HSO.out, hdo]
    have hbl : Below w3.heap.size w3 wc := by have h := hV5.mi.bel; rw [D1.out] at h; exact h
    have HBL : Hid (Below w3.heap.size w3 wc) := hbl
    obtain ⟨pD, kD, eD, hLD, _, _⟩ := hV5.llr
    have c19 : wc.cell? ⟨bs, 19, none⟩ = some (.bool d.out.more) := cell_keep hbl C19.out
    have c18 : wc.cell? ⟨bs, 18, none⟩ = some (.slice pS d.out.cyc.length kS) := cell_keep hbl C18.out
    have c5 : wc.cell? ⟨D.bs, 5, none⟩ = some (.bool d.out.more) := hV5.cell rfl
    have c4 : wc.cell? ⟨D.bs, 4, none⟩ = some (.slice pD d.out.cyc.length kD) := by rw [← eD]; exact hV5.cell rfl
    have HS1 : Hid (LLR wc pS d.out.cyc) := HLS.out.keep hbl
    have HS2 : Hid (LLR wc pD d.out.cyc) := hLD
    clear hV5 hdo hbl hLD HSO C19 C18 HLS HDI eD
    generalize d.out.more = mo at *
    generalize d.out.cyc = L at *
    have heq : (mo == mo) = true := by cases mo <;> rfl
    go_wp2_with fail
    go_quiet ((go_at_call 8; refine Calls.quiet_of ((same8 pS pD kS kD L _ HL1.out HL2.out (HS1.out.drewN _) (HS2.out.drewN _)).mono fun _ _ h => h)))
    go_wp2_with fail
    go_ret
    exact ⟨rfl, HBW.out.trans ((HBL.out.mono hsw3).trans ⟨rfl, rfl, rfl, Nat.le_refl _, fun _ _ => rfl⟩)⟩
end Go.Proofs.Ybulkcyk
