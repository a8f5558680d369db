/-
  zzs0196amodel (function 8), walked.
-/
import Derived.Test.YbulkdaoModPre
namespace Go.Proofs.Ybulkdao
open Go.RowKit

theorem fst_zero (S : Nat → Stp) (n : Nat) (kd u : Int) : fstN S n kd u 0 = n := rfl

theorem srcOf_rng {S : Nat → Stp} {n : Nat} (hp : Plain S n) (fa : Int → Nat) (k : ByteArray) (i : Nat) : ∀ m, m ≤ n → (srcOf S fa k i m = -1 ∨ ∃ t : Nat, t < 4 ∧ srcOf S fa k i m = (t : Int))
  | 0, _ => .inl rfl
  | m + 1, h => by
    rw [srcOf]
    split
    · have := hp.tx m (by omega)
      exact .inr ⟨(S m).tx.toNat, by omega, by omega⟩
    · exact srcOf_rng hp fa k i m (by omega)

set_option maxRecDepth 10000 in
set_option maxHeartbeats 3200000 in
theorem mod8 (g n cap : Nat) (S : Nat → Stp) (w : World) (hn : n ≤ 4000) (hst : StRow g n S w) (hg : g < w.heap.size) (hp : Plain S n) :
    Calls Yba.prog 8 #[.slice (some ⟨g, 0, none⟩) n cap] w fun e w' => e = .returned (.agg #[.bool (modR S n), .bool (modC S n), .bool (modS S n)]) ∧ Below w.heap.size w w' := by
  have HST : Hid (StRow g n S w) := hst
  have HP : Hid (Plain S n) := hp
  clear hst hp
  go_enter Yba.func8, Yba.ntmps8
  go_wp2_with fail
  have HM := mi_start w
  generalize hW : ((w.alloc (.cells #[.bool false, .bool false, .bool false] 34)).alloc (.cells #[.int .i64 0, .int .i64 0, .int .i64 0, .int .i64 0] 47)).alloc (.cells #[.int .i64 0, .int .i64 0, .int .i64 0, .int .i64 0] 47) = w1 at *
  clear hW
  generalize w.heap.size + 1 + 1 = bC at *
  generalize w.heap.size + 1 = bA at *
  have HM1 : Hid (MI w w.heap.size bA bC (fun _ => 0) (fun _ => 0) w1) := HM
  clear HM
  go_loopg [6] 4 (fun gn iv wr => ∃ u : Nat, gn = 4 - u ∧ u ≤ 4 ∧ iv = .int .i64 u ∧ MI w w.heap.size bA bC (fun j => if j < u then n else 0) (fun j => if j < u then n else 0) wr)
  case atStart => exact ⟨0, rfl, by omega, rfl, HM1.out.congr (fun j _ => by simp) (fun j _ => by simp)⟩
  case round =>
    clear HM1
    obtain ⟨u, hgk, hu, rfl, hm⟩ := hrel
    have HGK : Hid (gk = 4 - u) := hgk
    have HM : Hid (MI w w.heap.size bA bC (fun j => if j < u then n else 0) (fun j => if j < u then n else 0) wr) := hm
    clear hgk
    by_cases hlt : u < 4
    · have hlt' : (u : Int) < 4 := by omega
      have ca := hm.a.cell u hlt
      have fa := hm.a.free u
      have hm2 := hm.setA u hlt n
      have cc := hm2.c.cell u hlt
      have fc := hm2.c.free u
      have HM3 : Hid (MI w w.heap.size bA bC (fun j => if j < u + 1 then n else 0) (fun j => if j < u + 1 then n else 0) ((wr.setCell ⟨bA, u, none⟩ (.int .i64 n)).setCell ⟨bC, u, none⟩ (.int .i64 n))) := (hm2.setC u hlt n).congr (fun j hj => by split <;> (try split) <;> (try split) <;> omega) (fun j hj => by split <;> (try split) <;> (try split) <;> omega)
      clear hm hm2
      go_wp2_with fail
      go_roundg (4 - (u + 1))
      case measure => rw [HGK.out]; omega
      case rel => exact ⟨u + 1, rfl, by omega, by go_num, HM3.out⟩
    · have HM3 : Hid (MI w w.heap.size bA bC (fun j => fstN S n 5 j 0) (fun j => fstN S n 4 j 0) wr) := hm.congr (fun j hj => by rw [if_pos (by omega), fst_zero]) (fun j hj => by rw [if_pos (by omega), fst_zero])
      clear hm HM
      have hdd : decide ((u : Int) < 4) = false := decide_eq_false (by omega)
      go_wp2_with fail
      clear hdd hlt hu HGK
      go_loopg [7] n (fun gn iv wr => ∃ i : Nat, gn = n - i ∧ i ≤ n ∧ iv = .int .i64 i ∧ MI w w.heap.size bA bC (fun j => fstN S n 5 j i) (fun j => fstN S n 4 j i) wr)
      case atStart => exact ⟨0, rfl, by omega, rfl, HM3.out⟩
      case round =>
        clear HM3
        obtain ⟨i, hgk, hi, rfl, hm⟩ := hrel
        have HGK : Hid (gk = n - i) := hgk
        have HM : Hid (MI w w.heap.size bA bC (fun j => fstN S n 5 j i) (fun j => fstN S n 4 j i) wr) := hm
        clear hgk
        by_cases hlt : i < n
        · have hlt' : (i : Int) < (n : Int) := by omega
          have hrw : StRow g n S wr := HST.out.below hm.bel hg
          have htx := HP.out.tx i hlt
          obtain ⟨t, ht⟩ : ∃ t : Nat, (S i).tx = (t : Int) := ⟨(S i).tx.toNat, by omega⟩
          have ht4 : t < 4 := by omega
          have ht4' : (t : Int) < 4 := by omega
          have k0 := hrw.cell i hlt 0 (by omega)
          have k1 := hrw.cell i hlt 1 (by omega)
          simp only [stCell, Nat.add_zero] at k0 k1
          rw [ht] at k1
          have HT : Hid ((S i).tx = (t : Int)) := ht
          clear hrw htx ht
          have hgA : g ≠ bA := by have := HM.out.ord; omega
          have hgC : g ≠ bC := by have := HM.out.ord; omega
          have ca := hm.a.cell t ht4
          have fa := hm.a.free t
          have cc := hm.c.cell t ht4
          have fc := hm.c.free t
          clear hm
          rcases HP.out.kd i hlt with hk | hk | hk | hk
          · rw [hk] at k0
            have HM2 : Hid (MI w w.heap.size bA bC (fun j => fstN S n 5 j (i + 1)) (fun j => fstN S n 4 j (i + 1)) wr) := HM.out.congr (fun j hj => by simp [fstN, hk]) (fun j hj => by simp [fstN, hk])
            clear hk
            go_wp2_with fail
            go_roundg (n - (i + 1))
            case measure => rw [HGK.out]; omega
            case rel => exact ⟨i + 1, rfl, by omega, by go_num, HM2.out⟩
          · rw [hk] at k0
            have HM2 : Hid (MI w w.heap.size bA bC (fun j => fstN S n 5 j (i + 1)) (fun j => fstN S n 4 j (i + 1)) wr) := HM.out.congr (fun j hj => by simp [fstN, hk]) (fun j hj => by simp [fstN, hk])
            clear hk
            go_wp2_with fail
            go_roundg (n - (i + 1))
            case measure => rw [HGK.out]; omega
            case rel => exact ⟨i + 1, rfl, by omega, by go_num, HM2.out⟩
          · rw [hk] at k0
            by_cases hf : fstN S n 4 t i = n
            · have HM2 : Hid (MI w w.heap.size bA bC (fun j => fstN S n 5 j (i + 1)) (fun j => fstN S n 4 j (i + 1)) (wr.setCell ⟨bC, t, none⟩ (.int .i64 (i : Nat)))) := by
                refine (HM.out.setC t ht4 i).congr (fun j hj => by simp [fstN, hk]) (fun j hj => ?_)
                rw [fstN, HT.out]
                by_cases e : j = t
                · subst e
                  rw [if_pos rfl, if_pos ⟨hk, rfl, hf⟩]
                · rw [if_neg e, if_neg (by rintro ⟨_, h, _⟩; omega)]
              have hq : ((fstN S n 4 t i : Int) == (n : Int)) = true := by simp [hf]
              rw [hf] at cc
              clear hk hf
              go_wp2_with fail
              go_roundg (n - (i + 1))
              case measure => rw [HGK.out]; omega
              case rel => exact ⟨i + 1, rfl, by omega, by go_num, HM2.out⟩
            · have HM2 : Hid (MI w w.heap.size bA bC (fun j => fstN S n 5 j (i + 1)) (fun j => fstN S n 4 j (i + 1)) wr) := by
                refine HM.out.congr (fun j hj => ?_) (fun j hj => ?_)
                all_goals
                  rw [fstN]
                  rw [if_neg]
                  rintro ⟨h1, h2, h3⟩
                  first
                    | (rw [hk] at h1; exact absurd h1 (by decide))
                    | (have e : j = t := by have := HT.out; omega
                       subst e
                       exact hf h3)
              have hq : ((fstN S n 4 t i : Int) == (n : Int)) = false := by simp; omega
              clear hk
              go_wp2_with fail
              go_roundg (n - (i + 1))
              case measure => rw [HGK.out]; omega
              case rel => exact ⟨i + 1, rfl, by omega, by go_num, HM2.out⟩
          · rw [hk] at k0
            by_cases hf : fstN S n 5 t i = n
            · have HM2 : Hid (MI w w.heap.size bA bC (fun j => fstN S n 5 j (i + 1)) (fun j => fstN S n 4 j (i + 1)) (wr.setCell ⟨bA, t, none⟩ (.int .i64 (i : Nat)))) := by
                refine (HM.out.setA t ht4 i).congr (fun j hj => ?_) (fun j hj => by simp [fstN, hk])
                rw [fstN, HT.out]
                by_cases e : j = t
                · subst e
                  rw [if_pos rfl, if_pos ⟨hk, rfl, hf⟩]
                · rw [if_neg e, if_neg (by rintro ⟨_, h, _⟩; omega)]
              have hq : ((fstN S n 5 t i : Int) == (n : Int)) = true := by simp [hf]
              rw [hf] at ca
              clear hk hf
              go_wp2_with fail
              go_roundg (n - (i + 1))
              case measure => rw [HGK.out]; omega
              case rel => exact ⟨i + 1, rfl, by omega, by go_num, HM2.out⟩
            · have HM2 : Hid (MI w w.heap.size bA bC (fun j => fstN S n 5 j (i + 1)) (fun j => fstN S n 4 j (i + 1)) wr) := by
                refine HM.out.congr (fun j hj => ?_) (fun j hj => ?_)
                all_goals
                  rw [fstN]
                  rw [if_neg]
                  rintro ⟨h1, h2, h3⟩
                  first
                    | (rw [hk] at h1; exact absurd h1 (by decide))
                    | (have e : j = t := by have := HT.out; omega
                       subst e
                       exact hf h3)
              have hq : ((fstN S n 5 t i : Int) == (n : Int)) = false := by simp; omega
              clear hk
              go_wp2_with fail
              go_roundg (n - (i + 1))
              case measure => rw [HGK.out]; omega
              case rel => exact ⟨i + 1, rfl, by omega, by go_num, HM2.out⟩
        · have hie : i = n := by omega
          rw [hie] at HM
          clear hm
          have hdd : decide ((i : Int) < (n : Int)) = false := decide_eq_false (by omega)
          go_wp2_with fail
          clear hdd hie HGK hlt hi
          have HR0 : Hid (MR w w.heap.size bA bC wr.heap.size (fun j => fstN S n 5 j n) (fun j => fstN S n 4 j n) true true true (wr.alloc (.cells #[.bool true, .bool true, .bool true] 34))) := ⟨HM.out.grown (World.grownBy_alloc _ _ none) (fun k e => by cases e), HM.out.lt, by show (wr.heap.push _)[wr.heap.size]? = _; simp⟩
          clear HM
          generalize wr.alloc (.cells #[.bool true, .bool true, .bool true] 34) = w2 at *
          generalize wr.heap.size = bR at *
          go_loopg [10] n (fun gn iv wr => ∃ i : Nat, gn = n - i ∧ i ≤ n ∧ iv = .int .i64 i ∧ MR w w.heap.size bA bC bR (fun j => fstN S n 5 j n) (fun j => fstN S n 4 j n) (allTo (okR S n) i) (allTo (okC S n) i) (allTo (okS S) i) wr)
          case atStart => exact ⟨0, rfl, by omega, rfl, HR0.out⟩
          case round =>
            clear HR0
            obtain ⟨i, hgk, hi, rfl, hm⟩ := hrel
            have HGK : Hid (gk = n - i) := hgk
            have HM : Hid (MR w w.heap.size bA bC bR (fun j => fstN S n 5 j n) (fun j => fstN S n 4 j n) (allTo (okR S n) i) (allTo (okC S n) i) (allTo (okS S) i) wr) := hm
            clear hgk
            by_cases hlt : i < n
            · have hlt' : (i : Int) < (n : Int) := by omega
              have hrw : StRow g n S wr := HST.out.below hm.mi.bel hg
              have k0 := hrw.cell i hlt 0 (by omega)
              have k1 := hrw.cell i hlt 1 (by omega)
              have k2 := hrw.cell i hlt 2 (by omega)
              have k3 := hrw.cell i hlt 3 (by omega)
              have k4 := hrw.cell i hlt 4 (by omega)
              have k5 := hrw.cell i hlt 5 (by omega)
              have k6 := hrw.cell i hlt 6 (by omega)
              have k7 := hrw.cell i hlt 7 (by omega)
              have k8 := hrw.cell i hlt 8 (by omega)
              simp only [stCell, Nat.add_zero] at k0 k1 k2 k3 k4 k5 k6 k7 k8
              clear hrw hm
              go_upto_region 21 with fail
              change Code.wp _ _ _ _ (wr.alloc (stepObj (S i)))
              have HMS : Hid (MRS w w.heap.size bA bC bR wr.heap.size (S i) (fun j => fstN S n 5 j n) (fun j => fstN S n 4 j n) (allTo (okR S n) i) (allTo (okC S n) i) (allTo (okS S) i) (wr.alloc (stepObj (S i)))) := HM.out.enter (S i)
              clear k0 k1 k2 k3 k4 k5 k6 k7 k8 HM
              generalize wr.alloc (stepObj (S i)) = ws at *
              generalize wr.heap.size = bl at *
              have htx := HP.out.tx i hlt
              have s0 := HMS.out.st.c0
              have s1 := HMS.out.st.c1
              have s2 := HMS.out.st.c2
              have hkd := HP.out.kd i hlt
              rcases hkd with hk | hk | hk | hk
              · as_aux_lemma =>
                  rw [hk] at s0
                  have HK : Hid ((S i).kd = 1) := hk
                  have HOK : Hid (okS S i = allTo (okU S i) 4) := okS_four S i (.inl hk)
                  clear hk
                  generalize hxx : allTo (okR S n) i = xx at *
                  generalize hyy : allTo (okC S n) i = yy at *
                  generalize hzz : allTo (okS S) i = zz at *
                  have HX : Hid (allTo (okR S n) i = xx ∧ allTo (okC S n) i = yy ∧ allTo (okS S) i = zz) := ⟨hxx, hyy, hzz⟩
                  clear hxx hyy hzz
                  go_upto_block 6 with fail
                  go_cut [] (fun wx => MRS w w.heap.size bA bC bR bl (S i) (fun j => fstN S n 5 j n) (fun j => fstN S n 4 j n) xx yy (zz && okS S i) wx)
                  case first =>
                    go_wp2_with fail
                    go_loopg [12] 4 (fun gn uv wx => ∃ u : Nat, gn = 4 - u ∧ u ≤ 4 ∧ uv = .int .i64 u ∧ MRS w w.heap.size bA bC bR bl (S i) (fun j => fstN S n 5 j n) (fun j => fstN S n 4 j n) xx yy (zz && allTo (okU S i) u) wx)
                    case atStart => exact ⟨0, rfl, by omega, rfl, by simpa [allTo] using HMS.out⟩
                    case round =>
                      clear HMS s0 s1 s2
                      obtain ⟨u, hgu, hu, rfl, hm4⟩ := hrel
                      have HGU : Hid (gk = 4 - u) := hgu
                      have HM4 : Hid (MRS w w.heap.size bA bC bR bl (S i) (fun j => fstN S n 5 j n) (fun j => fstN S n 4 j n) xx yy (zz && allTo (okU S i) u) wr) := hm4
                      have s1 := hm4.st.c1
                      have s2 := hm4.st.c2
                      clear hgu hm4
                      by_cases hu4 : u < 4
                      · have hu4' : (u : Int) < 4 := by omega
                        by_cases hut : (u : Int) = (S i).tx
                        · have HU : Hid (allTo (okU S i) (u + 1) = allTo (okU S i) u) := by show allTo (okU S i) (u + 1) = allTo (okU S i) u; simp [allTo, okU, hut]
                          have hub : ((u : Int) == (S i).tx) = true := by simp [hut]
                          have HUT : Hid ((u : Int) = (S i).tx) := hut
                          clear hut
                          go_wp2_with fail
                          go_roundg (4 - (u + 1))
                          case measure => rw [HGU.out]; omega
                          case rel => exact ⟨u + 1, rfl, by omega, by go_num, by rw [HU.out]; exact HM4.out⟩
                        · have HU : Hid (allTo (okU S i) (u + 1) = (allTo (okU S i) u && !dirty S u (S i).ky i)) := by show allTo (okU S i) (u + 1) = (allTo (okU S i) u && !dirty S u (S i).ky i); simp [allTo, okU, hut]
                          have hub : ((u : Int) == (S i).tx) = false := by simpa using hut
                          clear hut
                          generalize hal : allTo (okU S i) u = al at *
                          clear hal
                          go_wp2_with fail
                          go_loopg [13] i (fun gn pv wx => ∃ m : Nat, ∃ y : Int, gn = m ∧ m ≤ i ∧ pv = .int .i64 y ∧ y = (m : Int) - 1 ∧ dirty S u (S i).ky m = dirty S u (S i).ky i ∧ MRS w w.heap.size bA bC bR bl (S i) (fun j => fstN S n 5 j n) (fun j => fstN S n 4 j n) xx yy (zz && al) wx)
                          case atStart => exact ⟨i, _, rfl, Nat.le_refl _, rfl, rfl, rfl, HM4.out⟩
                          case round =>
                            clear HM4 s1 s2
                            obtain ⟨m, y, hgm, hm, rfl, hy, hdi, hm5⟩ := hrel
                            have HGM : Hid (gk = m) := hgm
                            have HDI : Hid (dirty S u (S i).ky m = dirty S u (S i).ky i) := hdi
                            have HM5 : Hid (MRS w w.heap.size bA bC bR bl (S i) (fun j => fstN S n 5 j n) (fun j => fstN S n 4 j n) xx yy (zz && al) wr) := hm5
                            clear hgm hdi
                            cases m with
                            | zero =>
                              have hy' : y < 0 := by omega
                              clear hy hm5
                              have HU2 : Hid (allTo (okU S i) (u + 1) = al) := by show allTo (okU S i) (u + 1) = al; rw [HU.out, ← HDI.out]; simp [dirty]
                              go_wp2_with fail
                              go_roundg (4 - (u + 1))
                              case measure => rw [HGU.out]; omega
                              case rel => exact ⟨u + 1, rfl, by omega, by go_num, by rw [HU2.out]; exact HM5.out⟩
                            | succ p =>
                              obtain rfl : y = (p : Int) := by omega
                              clear hy
                              have hpn : p < n := by omega
                              have hpn' : (p : Int) < (n : Int) := by omega
                              have hrw : StRow g n S wr := HST.out.below hm5.mr.mi.bel hg
                              have k0 := hrw.cell p hpn 0 (by omega)
                              have k1 := hrw.cell p hpn 1 (by omega)
                              have k2 := hrw.cell p hpn 2 (by omega)
                              have k3 := hrw.cell p hpn 3 (by omega)
                              have k4 := hrw.cell p hpn 4 (by omega)
                              have k5 := hrw.cell p hpn 5 (by omega)
                              have k6 := hrw.cell p hpn 6 (by omega)
                              have k7 := hrw.cell p hpn 7 (by omega)
                              have k8 := hrw.cell p hpn 8 (by omega)
                              simp only [stCell, Nat.add_zero] at k0 k1 k2 k3 k4 k5 k6 k7 k8
                              clear hrw hm5
                              go_upto_region 30 with fail
                              change Code.wp _ _ _ _ (wr.alloc (stepObj (S p)))
                              have HQ : Hid (StepAt wr.heap.size (S p) (wr.alloc (stepObj (S p)))) := StepAt.new (S p) wr
                              have HM6 : Hid (MRS w w.heap.size bA bC bR bl (S i) (fun j => fstN S n 5 j n) (fun j => fstN S n 4 j n) xx yy (zz && al) (wr.alloc (stepObj (S p)))) := HM5.out.alloc _
                              clear k0 k1 k2 k3 k4 k5 k6 k7 k8 HM5
                              generalize wr.alloc (stepObj (S p)) = wq at *
                              generalize wr.heap.size = bq at *
                              have t0 := HQ.out.c0
                              have t1 := HQ.out.c1
                              have t2 := HQ.out.c2
                              have s2 := HM6.out.st.c2
                              have hz2 := HM6.out.mr.c2
                              have hf2 := HM6.out.mr.fr 2
                              have HD : Hid (dirty S u (S i).ky (p + 1) = if (S p).tx ≠ u then dirty S u (S i).ky p else if (S p).kd = 4 ∨ (S p).kd = 5 then false else if (S p).kd = 2 ∧ (S p).ky = (S i).ky then true else dirty S u (S i).ky p) := rfl
                              by_cases htu : (S p).tx = (u : Int)
                              · have hnu : ((S p).tx != (u : Int)) = false := by simp [htu]
                                rw [htu] at t1
                                have hnu2 : ((u : Int) != (u : Int)) = false := by simp
                                have HTU : Hid ((S p).tx = (u : Int)) := htu
                                clear htu hnu
                                rcases HP.out.kd p hpn with hk | hk | hk | hk
                                · rw [hk] at t0
                                  have HD2 : Hid (dirty S u (S i).ky p = dirty S u (S i).ky i) := by show dirty S u (S i).ky p = dirty S u (S i).ky i; rw [← HDI.out, HD.out]; simp [HTU.out, hk]
                                  clear hk
                                  go_wp2_with fail
                                  go_roundg p
                                  case measure => rw [HGM.out]; omega
                                  case rel => exact ⟨p, _, rfl, by omega, rfl, rfl, HD2.out, HM6.out⟩
                                · rw [hk] at t0
                                  by_cases hky : (S p).ky = (S i).ky
                                  · have HU2 : Hid (allTo (okU S i) (u + 1) = false) := by show allTo (okU S i) (u + 1) = false; rw [HU.out, ← HDI.out, HD.out]; simp [HTU.out, hk, hky]
                                    rw [hky] at t2
                                    clear hk hky
                                    go_wp2_with fail
                                    go_roundg (4 - (u + 1))
                                    case measure => rw [HGU.out]; omega
                                    case rel => exact ⟨u + 1, rfl, by omega, by go_num, by rw [HU2.out, Bool.and_false]; exact HM6.out.set2 false⟩
                                  · have HD2 : Hid (dirty S u (S i).ky p = dirty S u (S i).ky i) := by show dirty S u (S i).ky p = dirty S u (S i).ky i; rw [← HDI.out, HD.out]; simp [HTU.out, hk, hky]
                                    have hqq : ((S p).ky.toList == (S i).ky.toList) = false := by
                                      rw [beq_eq_false_iff_ne]
                                      intro h
                                      rw [ByteArray.toList_eq, ByteArray.toList_eq] at h
                                      exact hky (ByteArray.ext (Array.toList_inj.1 h))
                                    clear hk hky
                                    go_wp2_with fail
                                    go_roundg p
                                    case measure => rw [HGM.out]; omega
                                    case rel => exact ⟨p, _, rfl, by omega, rfl, rfl, HD2.out, HM6.out⟩
                                all_goals
                                  rw [hk] at t0
                                  have HU2 : Hid (allTo (okU S i) (u + 1) = al) := by show allTo (okU S i) (u + 1) = al; rw [HU.out, ← HDI.out, HD.out]; simp [HTU.out, hk]
                                  clear hk
                                  go_wp2_with fail
                                  go_roundg (4 - (u + 1))
                                  case measure => rw [HGU.out]; omega
                                  case rel => exact ⟨u + 1, rfl, by omega, by go_num, by rw [HU2.out]; exact HM6.out⟩
                              · have hnu : ((S p).tx != (u : Int)) = true := by simpa using htu
                                have HD2 : Hid (dirty S u (S i).ky p = dirty S u (S i).ky i) := by show dirty S u (S i).ky p = dirty S u (S i).ky i; rw [← HDI.out, HD.out]; simp [htu]
                                clear htu
                                go_wp2_with fail
                                go_roundg p
                                case measure => rw [HGM.out]; omega
                                case rel => exact ⟨p, _, rfl, by omega, rfl, rfl, HD2.out, HM6.out⟩
                      · have hue : u = 4 := by omega
                        subst hue
                        go_wp2_with fail
                        go_meet
                        rw [HOK.out]
                        exact HM4.out
                  case rest =>
                    have HM6 : Hid (MRS w w.heap.size bA bC bR bl (S i) (fun j => fstN S n 5 j n) (fun j => fstN S n 4 j n) xx yy (zz && okS S i) wc) := hcut
                    clear hcut HMS s0 s1 s2
                    have s0 := HM6.out.st.c0
                    have s1 := HM6.out.st.c1
                    have s2 := HM6.out.st.c2
                    rw [HK.out] at s0
                    have HF : Hid (srcOf S (fun u => fstN S n 5 u n) (S i).ky i i = -1 ∨ ∃ t : Nat, t < 4 ∧ srcOf S (fun u => fstN S n 5 u n) (S i).ky i i = (t : Int)) := srcOf_rng HP.out _ _ _ i (by omega)
                    go_upto_block 10 with fail
                    go_cut [15] (fun fv wx => fv = .int .i64 (srcOf S (fun u => fstN S n 5 u n) (S i).ky i i) ∧ MRS w w.heap.size bA bC bR bl (S i) (fun j => fstN S n 5 j n) (fun j => fstN S n 4 j n) xx yy (zz && okS S i) wx)
                    case first =>
                      go_wp2_with fail
                      go_loopg [15, 16] i (fun gn fv pv wx => ∃ m : Nat, ∃ y : Int, gn = m ∧ m ≤ i ∧ fv = .int .i64 (-1) ∧ pv = .int .i64 y ∧ y = (m : Int) - 1 ∧ srcOf S (fun u => fstN S n 5 u n) (S i).ky i m = srcOf S (fun u => fstN S n 5 u n) (S i).ky i i ∧ MRS w w.heap.size bA bC bR bl (S i) (fun j => fstN S n 5 j n) (fun j => fstN S n 4 j n) xx yy (zz && okS S i) wx)
                      case atStart => exact ⟨i, _, rfl, Nat.le_refl _, rfl, rfl, rfl, rfl, HM6.out⟩
                      case round =>
                        clear HM6 s0 s1 s2
                        obtain ⟨m, y, hgm, hm, rfl, rfl, hy, hdi, hm5⟩ := hrel
                        have HGM : Hid (gk = m) := hgm
                        have HDI : Hid (srcOf S (fun u => fstN S n 5 u n) (S i).ky i m = srcOf S (fun u => fstN S n 5 u n) (S i).ky i i) := hdi
                        have HM5 : Hid (MRS w w.heap.size bA bC bR bl (S i) (fun j => fstN S n 5 j n) (fun j => fstN S n 4 j n) xx yy (zz && okS S i) wr) := hm5
                        clear hgm hdi
                        cases m with
                        | zero =>
                          have hy' : y < 0 := by omega
                          clear hy hm5
                          go_wp2_with fail
                          go_meet
                          exact ⟨by rw [← HDI.out]; rfl, HM5.out⟩
                        | succ p =>
                          obtain rfl : y = (p : Int) := by omega
                          clear hy
                          have hpn : p < n := by omega
                          have hpn' : (p : Int) < (n : Int) := by omega
                          have hrw : StRow g n S wr := HST.out.below hm5.mr.mi.bel hg
                          have k0 := hrw.cell p hpn 0 (by omega)
                          have k1 := hrw.cell p hpn 1 (by omega)
                          have k2 := hrw.cell p hpn 2 (by omega)
                          have k3 := hrw.cell p hpn 3 (by omega)
                          have k4 := hrw.cell p hpn 4 (by omega)
                          have k5 := hrw.cell p hpn 5 (by omega)
                          have k6 := hrw.cell p hpn 6 (by omega)
                          have k7 := hrw.cell p hpn 7 (by omega)
                          have k8 := hrw.cell p hpn 8 (by omega)
                          simp only [stCell, Nat.add_zero] at k0 k1 k2 k3 k4 k5 k6 k7 k8
                          clear hrw hm5
                          go_upto_region 40 with fail
                          change Code.wp _ _ _ _ (wr.alloc (stepObj (S p)))
                          have HQ : Hid (StepAt wr.heap.size (S p) (wr.alloc (stepObj (S p)))) := StepAt.new (S p) wr
                          have HM6 : Hid (MRS w w.heap.size bA bC bR bl (S i) (fun j => fstN S n 5 j n) (fun j => fstN S n 4 j n) xx yy (zz && okS S i) (wr.alloc (stepObj (S p)))) := HM5.out.alloc _
                          clear k0 k1 k2 k3 k4 k5 k6 k7 k8 HM5
                          generalize wr.alloc (stepObj (S p)) = wq at *
                          generalize wr.heap.size = bq at *
                          have t0 := HQ.out.c0
                          have t1 := HQ.out.c1
                          have t2 := HQ.out.c2
                          have s2 := HM6.out.st.c2
                          have htx := HP.out.tx p hpn
                          obtain ⟨t, ht⟩ : ∃ t : Nat, (S p).tx = (t : Int) := ⟨(S p).tx.toNat, by omega⟩
                          have ht4 : t < 4 := by omega
                          have ht4' : (t : Int) < 4 := by omega
                          rw [ht] at t1
                          have HT : Hid ((S p).tx = (t : Int)) := ht
                          have ca := HM6.out.mr.mi.a.cell t ht4
                          have HD : Hid (srcOf S (fun u => fstN S n 5 u n) (S i).ky i (p + 1) = if (S p).kd = 2 ∧ (S p).ky = (S i).ky ∧ ¬ fstN S n 5 (S p).tx n < i then (S p).tx else srcOf S (fun u => fstN S n 5 u n) (S i).ky i p) := rfl
                          clear htx ht
                          by_cases hk : (S p).kd = 2
                          · rw [hk] at t0
                            by_cases hky : (S p).ky = (S i).ky
                            · rw [hky] at t2
                              by_cases hfi : fstN S n 5 (t : Int) n < i
                              · have HD2 : Hid (srcOf S (fun u => fstN S n 5 u n) (S i).ky i p = srcOf S (fun u => fstN S n 5 u n) (S i).ky i i) := by show srcOf S (fun u => fstN S n 5 u n) (S i).ky i p = srcOf S (fun u => fstN S n 5 u n) (S i).ky i i; rw [← HDI.out, HD.out, if_neg]; rw [HT.out]; rintro ⟨_, _, h⟩; exact h hfi
                                have hfi' : ((fstN S n 5 (t : Int) n : Nat) : Int) < (i : Int) := by omega
                                clear hk hky hfi
                                go_wp2_with fail
                                go_roundg p
                                case measure => rw [HGM.out]; omega
                                case rel => exact ⟨p, _, rfl, by omega, rfl, rfl, rfl, HD2.out, HM6.out⟩
                              · have HD2 : Hid ((t : Int) = srcOf S (fun u => fstN S n 5 u n) (S i).ky i i) := by show (t : Int) = srcOf S (fun u => fstN S n 5 u n) (S i).ky i i; rw [← HDI.out, HD.out, if_pos ⟨hk, hky, by rw [HT.out]; exact hfi⟩, HT.out]
                                have hfi' : decide (fstN S n 5 (t : Int) n < i) = false := decide_eq_false hfi
                                clear hk hky hfi
                                go_wp2_with fail
                                go_meet
                                exact ⟨by rw [← HD2.out], HM6.out⟩
                            · have HD2 : Hid (srcOf S (fun u => fstN S n 5 u n) (S i).ky i p = srcOf S (fun u => fstN S n 5 u n) (S i).ky i i) := by show srcOf S (fun u => fstN S n 5 u n) (S i).ky i p = srcOf S (fun u => fstN S n 5 u n) (S i).ky i i; rw [← HDI.out, HD.out, if_neg]; rintro ⟨_, h, _⟩; exact hky h
                              have hqq : ((S p).ky.toList == (S i).ky.toList) = false := by
                                rw [beq_eq_false_iff_ne]
                                intro h
                                rw [ByteArray.toList_eq, ByteArray.toList_eq] at h
                                exact hky (ByteArray.ext (Array.toList_inj.1 h))
                              clear hk hky
                              go_wp2_with fail
                              go_roundg p
                              case measure => rw [HGM.out]; omega
                              case rel => exact ⟨p, _, rfl, by omega, rfl, rfl, rfl, HD2.out, HM6.out⟩
                          · have HD2 : Hid (srcOf S (fun u => fstN S n 5 u n) (S i).ky i p = srcOf S (fun u => fstN S n 5 u n) (S i).ky i i) := by show srcOf S (fun u => fstN S n 5 u n) (S i).ky i p = srcOf S (fun u => fstN S n 5 u n) (S i).ky i i; rw [← HDI.out, HD.out, if_neg]; rintro ⟨h, _, _⟩; exact hk h
                            rcases HP.out.kd p hpn with h | h | h | h
                            case inr.inl => exact absurd h hk
                            all_goals
                              rw [h] at t0
                              clear hk h
                              go_wp2_with fail
                              go_roundg p
                              case measure => rw [HGM.out]; omega
                              case rel => exact ⟨p, _, rfl, by omega, rfl, rfl, rfl, HD2.out, HM6.out⟩
                    case rest =>
                      obtain ⟨rfl, hm6⟩ := hcut
                      have HM7 : Hid (MRS w w.heap.size bA bC bR bl (S i) (fun j => fstN S n 5 j n) (fun j => fstN S n 4 j n) xx yy (zz && okS S i) wc) := hm6
                      clear HM6 s0 s1 s2 hm6
                      have s1 := HM7.out.st.c1
                      rcases HF.out with hf | ⟨t, ht4, hf⟩
                      · have HA : Hid (allTo (okR S n) (i + 1) = xx ∧ allTo (okC S n) (i + 1) = yy ∧ allTo (okS S) (i + 1) = (zz && okS S i)) := by
                          obtain ⟨h1, h2, h3⟩ := HX.out
                          refine ⟨?_, ?_, ?_⟩
                          · rw [allTo, h1]; simp [okR, hf]
                          · rw [allTo, h2]; simp [okC, hf]
                          · rw [allTo, h3]
                        rw [hf]
                        clear hf HF
                        go_wp2_with fail
                        go_roundg (n - (i + 1))
                        case measure => rw [HGK.out]; omega
                        case rel => exact ⟨i + 1, rfl, by omega, by go_num, by rw [HA.out.1, HA.out.2.1, HA.out.2.2]; exact HM7.out.mr⟩
                      · have ht4' : (t : Int) < 4 := by omega
                        by_cases htt : (t : Int) = (S i).tx
                        · have HA : Hid (allTo (okR S n) (i + 1) = xx ∧ allTo (okC S n) (i + 1) = yy ∧ allTo (okS S) (i + 1) = (zz && okS S i)) := by
                            obtain ⟨h1, h2, h3⟩ := HX.out
                            refine ⟨?_, ?_, ?_⟩
                            · rw [allTo, h1]; simp [okR, hf, htt]
                            · rw [allTo, h2]; simp [okC, hf, htt]
                            · rw [allTo, h3]
                          rw [hf]
                          rw [← htt] at s1
                          have hbb : ((t : Int) == (t : Int)) = true := by simp
                          clear hf HF htt
                          go_wp2_with fail
                          go_roundg (n - (i + 1))
                          case measure => rw [HGK.out]; omega
                          case rel => exact ⟨i + 1, rfl, by omega, by go_num, by rw [HA.out.1, HA.out.2.1, HA.out.2.2]; exact HM7.out.mr⟩
                        · have HA : Hid (allTo (okR S n) (i + 1) = (xx && fwd S (S i).tx (fstN S n 4 (t : Int) n) (n - (i + 1)) (i + 1)) ∧ allTo (okC S n) (i + 1) = (yy && decide (fstN S n 4 (t : Int) n < i)) ∧ allTo (okS S) (i + 1) = (zz && okS S i)) := by
                            obtain ⟨h1, h2, h3⟩ := HX.out
                            have hn0 : ¬ ((t : Int) < 0) := by omega
                            refine ⟨?_, ?_, ?_⟩
                            · rw [allTo, h1]; simp [okR, hf, htt, HK.out, hn0]
                            · rw [allTo, h2]; simp [okC, hf, htt, HK.out, hn0]
                            · rw [allTo, h3]
                          rw [hf]
                          have hbb : ((t : Int) == (S i).tx) = false := by simpa using htt
                          have cc := HM7.out.mr.mi.c.cell t ht4
                          have r1 := HM7.out.mr.c1
                          have fr1 := HM7.out.mr.fr 1
                          clear hf HF htt
                          go_upto_if 179 with fail
                          go_cut [] (fun wx => MRS w w.heap.size bA bC bR bl (S i) (fun j => fstN S n 5 j n) (fun j => fstN S n 4 j n) xx (yy && decide (fstN S n 4 (t : Int) n < i)) (zz && okS S i) wx)
                          case first =>
                            by_cases hci : fstN S n 4 (t : Int) n < i
                            · have hci' : decide (fstN S n 4 (t : Int) n < i) = true := decide_eq_true hci
                              rw [hci', Bool.not_true]
                              go_wp2_with fail
                              go_meet
                              rw [hci', Bool.and_true]
                              exact HM7.out
                            · have hci' : decide (fstN S n 4 (t : Int) n < i) = false := decide_eq_false hci
                              rw [hci', Bool.not_false]
                              go_wp2_with fail
                              go_meet
                              rw [hci', Bool.and_false]
                              exact HM7.out.set1 false
                          case rest =>
                            have HM8 : Hid (MRS w w.heap.size bA bC bR bl (S i) (fun j => fstN S n 5 j n) (fun j => fstN S n 4 j n) xx (yy && decide (fstN S n 4 (t : Int) n < i)) (zz && okS S i) wc) := hcut
                            clear hcut HM7 s1 cc r1 fr1 hbb
                            go_wp2_with fail
                            go_loopg [18] (n - (i + 1)) (fun gn jv wx => ∃ j : Nat, gn = n - j ∧ i + 1 ≤ j ∧ j ≤ n ∧ jv = .int .i64 j ∧ fwd S (S i).tx (fstN S n 4 (t : Int) n) (n - (i + 1)) (i + 1) = fwd S (S i).tx (fstN S n 4 (t : Int) n) (n - j) j ∧ MRS w w.heap.size bA bC bR bl (S i) (fun j => fstN S n 5 j n) (fun j => fstN S n 4 j n) xx (yy && decide (fstN S n 4 (t : Int) n < i)) (zz && okS S i) wx)
                            case atStart => exact ⟨i + 1, rfl, Nat.le_refl _, by omega, by go_num, rfl, HM8.out⟩
                            case round =>
                              clear HM8
                              obtain ⟨j, hgj, hj1, hj, rfl, hfw, hm9⟩ := hrel
                              have HGJ : Hid (gk = n - j) := hgj
                              have HFW : Hid (fwd S (S i).tx (fstN S n 4 (t : Int) n) (n - (i + 1)) (i + 1) = fwd S (S i).tx (fstN S n 4 (t : Int) n) (n - j) j) := hfw
                              have HM9 : Hid (MRS w w.heap.size bA bC bR bl (S i) (fun j => fstN S n 5 j n) (fun j => fstN S n 4 j n) xx (yy && decide (fstN S n 4 (t : Int) n < i)) (zz && okS S i) wr) := hm9
                              have s1 := hm9.st.c1
                              clear hgj hfw
                              by_cases hjn : j < n
                              · have hjn' : (j : Int) < (n : Int) := by omega
                                have hrw : StRow g n S wr := HST.out.below hm9.mr.mi.bel hg
                                have k0 := hrw.cell j hjn 0 (by omega)
                                have k1 := hrw.cell j hjn 1 (by omega)
                                simp only [stCell, Nat.add_zero] at k0 k1
                                have HD : Hid (fwd S (S i).tx (fstN S n 4 (t : Int) n) (n - j) j = if (S j).kd = 4 ∧ (S j).tx = (S i).tx then decide (fstN S n 4 (t : Int) n < j) else fwd S (S i).tx (fstN S n 4 (t : Int) n) (n - (j + 1)) (j + 1)) := by
                                  show fwd S (S i).tx (fstN S n 4 (t : Int) n) (n - j) j = _
                                  rw [show n - j = (n - (j + 1)) + 1 by omega, fwd]
                                clear hrw hm9
                                by_cases hk : (S j).kd = 4
                                · rw [hk] at k0
                                  by_cases htt : (S j).tx = (S i).tx
                                  · rw [htt] at k1
                                    have hbb : ((S i).tx == (S i).tx) = true := by simp
                                    by_cases hcj : fstN S n 4 (t : Int) n < j
                                    · have hcj' : decide (fstN S n 4 (t : Int) n < j) = true := decide_eq_true hcj
                                      have HA2 : Hid (fwd S (S i).tx (fstN S n 4 (t : Int) n) (n - (i + 1)) (i + 1) = true) := by show fwd S (S i).tx (fstN S n 4 (t : Int) n) (n - (i + 1)) (i + 1) = true; rw [HFW.out, HD.out, if_pos ⟨hk, htt⟩, hcj']
                                      clear hk htt
                                      go_wp2_with fail
                                      go_quiet (fail)
                                      have HM10 : Hid (MRS w w.heap.size bA bC bR bl (S i) (fun j => fstN S n 5 j n) (fun j => fstN S n 4 j n) xx (yy && decide (fstN S n 4 (t : Int) n < i)) (zz && okS S i) (wr.drewN nq)) := HM9.out.drewN _
                                      clear k0 k1 s1
                                      generalize wr.drewN nq = wy at *
                                      have cc := HM10.out.mr.mi.c.cell t ht4
                                      have r0 := HM10.out.mr.c0
                                      have fr0 := HM10.out.mr.fr 0
                                      go_wp2_with fail
                                      go_roundg (n - (i + 1))
                                      case measure => rw [HGK.out]; omega
                                      case rel => exact ⟨i + 1, rfl, by omega, by go_num, by rw [HA.out.1, HA.out.2.1, HA.out.2.2, HA2.out, Bool.and_true]; exact HM10.out.mr⟩
                                    · have hcj' : decide (fstN S n 4 (t : Int) n < j) = false := decide_eq_false hcj
                                      have HA2 : Hid (fwd S (S i).tx (fstN S n 4 (t : Int) n) (n - (i + 1)) (i + 1) = false) := by show fwd S (S i).tx (fstN S n 4 (t : Int) n) (n - (i + 1)) (i + 1) = false; rw [HFW.out, HD.out, if_pos ⟨hk, htt⟩, hcj']
                                      clear hk htt
                                      go_wp2_with fail
                                      go_quiet (fail)
                                      have HM10 : Hid (MRS w w.heap.size bA bC bR bl (S i) (fun j => fstN S n 5 j n) (fun j => fstN S n 4 j n) xx (yy && decide (fstN S n 4 (t : Int) n < i)) (zz && okS S i) (wr.drewN nq)) := HM9.out.drewN _
                                      clear k0 k1 s1
                                      generalize wr.drewN nq = wy at *
                                      have cc := HM10.out.mr.mi.c.cell t ht4
                                      have r0 := HM10.out.mr.c0
                                      have fr0 := HM10.out.mr.fr 0
                                      go_wp2_with fail
                                      go_roundg (n - (i + 1))
                                      case measure => rw [HGK.out]; omega
                                      case rel => exact ⟨i + 1, rfl, by omega, by go_num, by rw [HA.out.1, HA.out.2.1, HA.out.2.2, HA2.out, Bool.and_false]; exact HM10.out.mr.set0 false⟩
                                  · have HD2 : Hid (fwd S (S i).tx (fstN S n 4 (t : Int) n) (n - (i + 1)) (i + 1) = fwd S (S i).tx (fstN S n 4 (t : Int) n) (n - (j + 1)) (j + 1)) := by show fwd S (S i).tx (fstN S n 4 (t : Int) n) (n - (i + 1)) (i + 1) = fwd S (S i).tx (fstN S n 4 (t : Int) n) (n - (j + 1)) (j + 1); rw [HFW.out, HD.out, if_neg (fun h => htt h.2)]
                                    have hbb : ((S j).tx == (S i).tx) = false := by simpa using htt
                                    clear hk htt
                                    go_wp2_with fail
                                    go_quiet (fail)
                                    go_wp2_with fail
                                    go_roundg (n - (j + 1))
                                    case measure => rw [HGJ.out]; omega
                                    case rel => exact ⟨j + 1, rfl, by omega, by omega, by go_num, HD2.out, HM9.out.drewN _⟩
                                · have HD2 : Hid (fwd S (S i).tx (fstN S n 4 (t : Int) n) (n - (i + 1)) (i + 1) = fwd S (S i).tx (fstN S n 4 (t : Int) n) (n - (j + 1)) (j + 1)) := by show fwd S (S i).tx (fstN S n 4 (t : Int) n) (n - (i + 1)) (i + 1) = fwd S (S i).tx (fstN S n 4 (t : Int) n) (n - (j + 1)) (j + 1); rw [HFW.out, HD.out, if_neg (fun h => hk h.1)]
                                  rcases HP.out.kd j hjn with h | h | h | h
                                  case inr.inr.inl => exact absurd h hk
                                  all_goals
                                    rw [h] at k0
                                    clear hk h
                                    go_wp2_with fail
                                    go_quiet (fail)
                                    go_wp2_with fail
                                    go_roundg (n - (j + 1))
                                    case measure => rw [HGJ.out]; omega
                                    case rel => exact ⟨j + 1, rfl, by omega, by omega, by go_num, HD2.out, HM9.out.drewN _⟩
                              · have hje : j = n := by omega
                                have HA2 : Hid (fwd S (S i).tx (fstN S n 4 (t : Int) n) (n - (i + 1)) (i + 1) = true) := by show fwd S (S i).tx (fstN S n 4 (t : Int) n) (n - (i + 1)) (i + 1) = true; rw [HFW.out, hje, Nat.sub_self, fwd]
                                have hdd : decide ((j : Int) < (n : Int)) = false := decide_eq_false (by omega)
                                clear hm9 hje
                                go_wp2_with fail
                                go_roundg (n - (i + 1))
                                case measure => rw [HGK.out]; omega
                                case rel => exact ⟨i + 1, rfl, by omega, by go_num, by rw [HA.out.1, HA.out.2.1, HA.out.2.2, HA2.out, Bool.and_true]; exact HM9.out.mr⟩
              · as_aux_lemma =>
                  rw [hk] at s0
                  have HK : Hid ((S i).kd = 2) := hk
                  have HOK : Hid (okS S i = allTo (okU S i) 4) := okS_four S i (.inr hk)
                  clear hk
                  generalize hxx : allTo (okR S n) i = xx at *
                  generalize hyy : allTo (okC S n) i = yy at *
                  generalize hzz : allTo (okS S) i = zz at *
                  have HX : Hid (allTo (okR S n) i = xx ∧ allTo (okC S n) i = yy ∧ allTo (okS S) i = zz) := ⟨hxx, hyy, hzz⟩
                  clear hxx hyy hzz
                  go_upto_block 6 with fail
                  go_cut [] (fun wx => MRS w w.heap.size bA bC bR bl (S i) (fun j => fstN S n 5 j n) (fun j => fstN S n 4 j n) xx yy (zz && okS S i) wx)
                  case first =>
                    go_wp2_with fail
                    go_loopg [12] 4 (fun gn uv wx => ∃ u : Nat, gn = 4 - u ∧ u ≤ 4 ∧ uv = .int .i64 u ∧ MRS w w.heap.size bA bC bR bl (S i) (fun j => fstN S n 5 j n) (fun j => fstN S n 4 j n) xx yy (zz && allTo (okU S i) u) wx)
                    case atStart => exact ⟨0, rfl, by omega, rfl, by simpa [allTo] using HMS.out⟩
                    case round =>
                      clear HMS s0 s1 s2
                      obtain ⟨u, hgu, hu, rfl, hm4⟩ := hrel
                      have HGU : Hid (gk = 4 - u) := hgu
                      have HM4 : Hid (MRS w w.heap.size bA bC bR bl (S i) (fun j => fstN S n 5 j n) (fun j => fstN S n 4 j n) xx yy (zz && allTo (okU S i) u) wr) := hm4
                      have s1 := hm4.st.c1
                      have s2 := hm4.st.c2
                      clear hgu hm4
                      by_cases hu4 : u < 4
                      · have hu4' : (u : Int) < 4 := by omega
                        by_cases hut : (u : Int) = (S i).tx
                        · have HU : Hid (allTo (okU S i) (u + 1) = allTo (okU S i) u) := by show allTo (okU S i) (u + 1) = allTo (okU S i) u; simp [allTo, okU, hut]
                          have hub : ((u : Int) == (S i).tx) = true := by simp [hut]
                          have HUT : Hid ((u : Int) = (S i).tx) := hut
                          clear hut
                          go_wp2_with fail
                          go_roundg (4 - (u + 1))
                          case measure => rw [HGU.out]; omega
                          case rel => exact ⟨u + 1, rfl, by omega, by go_num, by rw [HU.out]; exact HM4.out⟩
                        · have HU : Hid (allTo (okU S i) (u + 1) = (allTo (okU S i) u && !dirty S u (S i).ky i)) := by show allTo (okU S i) (u + 1) = (allTo (okU S i) u && !dirty S u (S i).ky i); simp [allTo, okU, hut]
                          have hub : ((u : Int) == (S i).tx) = false := by simpa using hut
                          clear hut
                          generalize hal : allTo (okU S i) u = al at *
                          clear hal
                          go_wp2_with fail
                          go_loopg [13] i (fun gn pv wx => ∃ m : Nat, ∃ y : Int, gn = m ∧ m ≤ i ∧ pv = .int .i64 y ∧ y = (m : Int) - 1 ∧ dirty S u (S i).ky m = dirty S u (S i).ky i ∧ MRS w w.heap.size bA bC bR bl (S i) (fun j => fstN S n 5 j n) (fun j => fstN S n 4 j n) xx yy (zz && al) wx)
                          case atStart => exact ⟨i, _, rfl, Nat.le_refl _, rfl, rfl, rfl, HM4.out⟩
                          case round =>
                            clear HM4 s1 s2
                            obtain ⟨m, y, hgm, hm, rfl, hy, hdi, hm5⟩ := hrel
                            have HGM : Hid (gk = m) := hgm
                            have HDI : Hid (dirty S u (S i).ky m = dirty S u (S i).ky i) := hdi
                            have HM5 : Hid (MRS w w.heap.size bA bC bR bl (S i) (fun j => fstN S n 5 j n) (fun j => fstN S n 4 j n) xx yy (zz && al) wr) := hm5
                            clear hgm hdi
                            cases m with
                            | zero =>
                              have hy' : y < 0 := by omega
                              clear hy hm5
                              have HU2 : Hid (allTo (okU S i) (u + 1) = al) := by show allTo (okU S i) (u + 1) = al; rw [HU.out, ← HDI.out]; simp [dirty]
                              go_wp2_with fail
                              go_roundg (4 - (u + 1))
                              case measure => rw [HGU.out]; omega
                              case rel => exact ⟨u + 1, rfl, by omega, by go_num, by rw [HU2.out]; exact HM5.out⟩
                            | succ p =>
                              obtain rfl : y = (p : Int) := by omega
                              clear hy
                              have hpn : p < n := by omega
                              have hpn' : (p : Int) < (n : Int) := by omega
                              have hrw : StRow g n S wr := HST.out.below hm5.mr.mi.bel hg
                              have k0 := hrw.cell p hpn 0 (by omega)
                              have k1 := hrw.cell p hpn 1 (by omega)
                              have k2 := hrw.cell p hpn 2 (by omega)
                              have k3 := hrw.cell p hpn 3 (by omega)
                              have k4 := hrw.cell p hpn 4 (by omega)
                              have k5 := hrw.cell p hpn 5 (by omega)
                              have k6 := hrw.cell p hpn 6 (by omega)
                              have k7 := hrw.cell p hpn 7 (by omega)
                              have k8 := hrw.cell p hpn 8 (by omega)
                              simp only [stCell, Nat.add_zero] at k0 k1 k2 k3 k4 k5 k6 k7 k8
                              clear hrw hm5
                              go_upto_region 30 with fail
                              change Code.wp _ _ _ _ (wr.alloc (stepObj (S p)))
                              have HQ : Hid (StepAt wr.heap.size (S p) (wr.alloc (stepObj (S p)))) := StepAt.new (S p) wr
                              have HM6 : Hid (MRS w w.heap.size bA bC bR bl (S i) (fun j => fstN S n 5 j n) (fun j => fstN S n 4 j n) xx yy (zz && al) (wr.alloc (stepObj (S p)))) := HM5.out.alloc _
                              clear k0 k1 k2 k3 k4 k5 k6 k7 k8 HM5
                              generalize wr.alloc (stepObj (S p)) = wq at *
                              generalize wr.heap.size = bq at *
                              have t0 := HQ.out.c0
                              have t1 := HQ.out.c1
                              have t2 := HQ.out.c2
                              have s2 := HM6.out.st.c2
                              have hz2 := HM6.out.mr.c2
                              have hf2 := HM6.out.mr.fr 2
                              have HD : Hid (dirty S u (S i).ky (p + 1) = if (S p).tx ≠ u then dirty S u (S i).ky p else if (S p).kd = 4 ∨ (S p).kd = 5 then false else if (S p).kd = 2 ∧ (S p).ky = (S i).ky then true else dirty S u (S i).ky p) := rfl
                              by_cases htu : (S p).tx = (u : Int)
                              · have hnu : ((S p).tx != (u : Int)) = false := by simp [htu]
                                rw [htu] at t1
                                have hnu2 : ((u : Int) != (u : Int)) = false := by simp
                                have HTU : Hid ((S p).tx = (u : Int)) := htu
                                clear htu hnu
                                rcases HP.out.kd p hpn with hk | hk | hk | hk
                                · rw [hk] at t0
                                  have HD2 : Hid (dirty S u (S i).ky p = dirty S u (S i).ky i) := by show dirty S u (S i).ky p = dirty S u (S i).ky i; rw [← HDI.out, HD.out]; simp [HTU.out, hk]
                                  clear hk
                                  go_wp2_with fail
                                  go_roundg p
                                  case measure => rw [HGM.out]; omega
                                  case rel => exact ⟨p, _, rfl, by omega, rfl, rfl, HD2.out, HM6.out⟩
                                · rw [hk] at t0
                                  by_cases hky : (S p).ky = (S i).ky
                                  · have HU2 : Hid (allTo (okU S i) (u + 1) = false) := by show allTo (okU S i) (u + 1) = false; rw [HU.out, ← HDI.out, HD.out]; simp [HTU.out, hk, hky]
                                    rw [hky] at t2
                                    clear hk hky
                                    go_wp2_with fail
                                    go_roundg (4 - (u + 1))
                                    case measure => rw [HGU.out]; omega
                                    case rel => exact ⟨u + 1, rfl, by omega, by go_num, by rw [HU2.out, Bool.and_false]; exact HM6.out.set2 false⟩
                                  · have HD2 : Hid (dirty S u (S i).ky p = dirty S u (S i).ky i) := by show dirty S u (S i).ky p = dirty S u (S i).ky i; rw [← HDI.out, HD.out]; simp [HTU.out, hk, hky]
                                    have hqq : ((S p).ky.toList == (S i).ky.toList) = false := by
                                      rw [beq_eq_false_iff_ne]
                                      intro h
                                      rw [ByteArray.toList_eq, ByteArray.toList_eq] at h
                                      exact hky (ByteArray.ext (Array.toList_inj.1 h))
                                    clear hk hky
                                    go_wp2_with fail
                                    go_roundg p
                                    case measure => rw [HGM.out]; omega
                                    case rel => exact ⟨p, _, rfl, by omega, rfl, rfl, HD2.out, HM6.out⟩
                                all_goals
                                  rw [hk] at t0
                                  have HU2 : Hid (allTo (okU S i) (u + 1) = al) := by show allTo (okU S i) (u + 1) = al; rw [HU.out, ← HDI.out, HD.out]; simp [HTU.out, hk]
                                  clear hk
                                  go_wp2_with fail
                                  go_roundg (4 - (u + 1))
                                  case measure => rw [HGU.out]; omega
                                  case rel => exact ⟨u + 1, rfl, by omega, by go_num, by rw [HU2.out]; exact HM6.out⟩
                              · have hnu : ((S p).tx != (u : Int)) = true := by simpa using htu
                                have HD2 : Hid (dirty S u (S i).ky p = dirty S u (S i).ky i) := by show dirty S u (S i).ky p = dirty S u (S i).ky i; rw [← HDI.out, HD.out]; simp [htu]
                                clear htu
                                go_wp2_with fail
                                go_roundg p
                                case measure => rw [HGM.out]; omega
                                case rel => exact ⟨p, _, rfl, by omega, rfl, rfl, HD2.out, HM6.out⟩
                      · have hue : u = 4 := by omega
                        subst hue
                        go_wp2_with fail
                        go_meet
                        rw [HOK.out]
                        exact HM4.out
                  case rest =>
                    have HM6 : Hid (MRS w w.heap.size bA bC bR bl (S i) (fun j => fstN S n 5 j n) (fun j => fstN S n 4 j n) xx yy (zz && okS S i) wc) := hcut
                    clear hcut HMS s0 s1 s2
                    have s0 := HM6.out.st.c0
                    have s1 := HM6.out.st.c1
                    have s2 := HM6.out.st.c2
                    rw [HK.out] at s0
                    have HA : Hid (allTo (okR S n) (i + 1) = xx ∧ allTo (okC S n) (i + 1) = yy ∧ allTo (okS S) (i + 1) = (zz && okS S i)) := by
                      obtain ⟨h1, h2, h3⟩ := HX.out
                      refine ⟨?_, ?_, ?_⟩
                      · rw [allTo, h1]; simp [okR, HK.out]
                      · rw [allTo, h2]; simp [okC, HK.out]
                      · rw [allTo, h3]
                    go_wp2_with fail
                    go_roundg (n - (i + 1))
                    case measure => rw [HGK.out]; omega
                    case rel => exact ⟨i + 1, rfl, by omega, by go_num, by rw [HA.out.1, HA.out.2.1, HA.out.2.2]; exact HM6.out.mr⟩
              · as_aux_lemma =>
                  rw [hk] at s0
                  have HA : Hid (allTo (okR S n) (i + 1) = allTo (okR S n) i ∧ allTo (okC S n) (i + 1) = allTo (okC S n) i ∧ allTo (okS S) (i + 1) = allTo (okS S) i) := by
                    refine ⟨?_, ?_, ?_⟩ <;> simp [allTo, okR, okC, okS, hk]
                  clear hk
                  go_wp2_with fail
                  go_roundg (n - (i + 1))
                  case measure => rw [HGK.out]; omega
                  case rel => exact ⟨i + 1, rfl, by omega, by go_num, by rw [HA.out.1, HA.out.2.1, HA.out.2.2]; exact HMS.out.mr⟩
              · as_aux_lemma =>
                  rw [hk] at s0
                  have HA : Hid (allTo (okR S n) (i + 1) = allTo (okR S n) i ∧ allTo (okC S n) (i + 1) = allTo (okC S n) i ∧ allTo (okS S) (i + 1) = allTo (okS S) i) := by
                    refine ⟨?_, ?_, ?_⟩ <;> simp [allTo, okR, okC, okS, hk]
                  clear hk
                  go_wp2_with fail
                  go_roundg (n - (i + 1))
                  case measure => rw [HGK.out]; omega
                  case rel => exact ⟨i + 1, rfl, by omega, by go_num, by rw [HA.out.1, HA.out.2.1, HA.out.2.2]; exact HMS.out.mr⟩
            · have hie : i = n := by omega
              rw [hie] at HM hm
              have r0 := hm.c0
              have r1 := hm.c1
              have r2 := hm.c2
              have q0 : wr.cell? ⟨w.heap.size, 0, none⟩ = some (.bool false) := by simp [World.cell?, hm.mi.res]
              have q1 : wr.cell? ⟨w.heap.size, 1, none⟩ = some (.bool false) := by simp [World.cell?, hm.mi.res]
              have q2 : wr.cell? ⟨w.heap.size, 2, none⟩ = some (.bool false) := by simp [World.cell?, hm.mi.res]
              have f0 : wr.frozen? ⟨w.heap.size, 0, none⟩ = false := by simp [World.frozen?, hm.mi.res]
              have f1 : wr.frozen? ⟨w.heap.size, 1, none⟩ = false := by simp [World.frozen?, hm.mi.res]
              have f2 : wr.frozen? ⟨w.heap.size, 2, none⟩ = false := by simp [World.frozen?, hm.mi.res]
              clear hm hie
              go_wp2_with fail
              refine bodyPost_ret (v := .agg #[.bool (modR S n), .bool (modC S n), .bool (modS S n)]) (by simp [results, Yba.results8, go_sem, modR, modC, modS, q0, q1, q2]) rfl ⟨rfl, ?_⟩
              exact ((HM.out.mi.bel.setCell (Nat.le_refl _) _).setCell (Nat.le_refl _) _).setCell (Nat.le_refl _) _

end Go.Proofs.Ybulkdao
