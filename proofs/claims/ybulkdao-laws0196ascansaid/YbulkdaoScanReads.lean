/-
  reads (function 11) where there is a scan: each scan laid out.
-/
import Derived.Test.YbulkdaoKeys
namespace Go.Proofs.Ybulkdao
open Go.RowKit

theorem search16 (b c : Nat) (K : List ByteArray) (x : ByteArray) (w : World) (hn : K.length < 4611686018427387904) (hc : ∀ j, j < K.length → w.cell? ⟨b, 0 + j, none⟩ = some (.string (K.getD j ⟨#[]⟩))) :
    Calls Yba.prog 16 #[.slice (some ⟨b, 0, none⟩) K.length c, .string x] w fun e w' => ∃ bb, e = .returned (.tuple #[.int .i64 (bsOf K x : Nat), .bool bb]) ∧ ∃ q, w' = w.drewN q :=
  (Any2.slices_BinarySearch_string Yba.lays26 b 0 K.length c (fun j => K.getD j ⟨#[]⟩) x w hn hc).mono fun _ _ h => ⟨_, h⟩
theorem search16_nil (x : ByteArray) (w : World) : Calls Yba.prog 16 #[.slice none 0 0, .string x] w fun e w' => e = .returned (.tuple #[.int .i64 0, .bool false]) ∧ w = w' :=
  (Any2.slices_BinarySearch_string_empty Yba.lays26 none 0 x w).mono fun _ _ h => ⟨h.1, h.2.symm⟩
theorem prefix10 (s p : ByteArray) (w : World) : Calls Yba.prog 10 #[.string s, .string p] w fun e w' => e = .returned (.bool (preB p s)) ∧ w = w' :=
  (Any.strings_HasPrefix Yba.lays99 s p w).mono fun _ _ h => ⟨h.1, h.2.symm⟩

theorem tw_take {α : Type} (p : α → Bool) (T : List α) (j : Nat) (h1 : ∀ i, (h : i < T.length) → i < j → p T[i] = true) (h2 : ∀ h : j < T.length, p T[j] = false) : T.takeWhile p = T.take j := by
  induction T generalizing j with
  | nil => simp
  | cons a r ih =>
    cases j with
    | zero => rw [List.takeWhile_cons, show p a = false from h2 (by simp)]; rfl
    | succ j =>
      rw [List.takeWhile_cons, show p a = true from h1 0 (by simp) (by omega), List.take_succ_cons, if_pos rfl]
      rw [ih j (fun i h hi => h1 (i + 1) (by simpa using h) (by omega)) (fun h => h2 (by simpa using h))]
theorem take_snoc {α : Type} (T : List α) (j : Nat) (h : j < T.length) : T.take (j + 1) = T.take j ++ [T[j]] := by simp
theorem drop_getD (K : List ByteArray) (z j : Nat) (h : j < (K.drop z).length) : (K.drop z)[j] = K.getD (z + j) ⟨#[]⟩ := by
  have h' : z + j < K.length := by simp at h; omega
  rw [List.getD_eq_getElem?_getD, List.getElem?_eq_getElem h']
  simp
theorem own_cells {w : World} {base g cap : Nat} {K : List ByteArray} (h : w.ownsRow base 9 1 (.slice (some ⟨g, 0, none⟩) K.length cap) K.length (K.map Value.string)) (j : Nat) (hj : j < K.length) : w.cell? ⟨g, j, none⟩ = some (.string (K.getD j ⟨#[]⟩)) := by
  rw [h.cellAt j (by omega), List.getElem?_map, List.getD_eq_getElem?_getD, List.getElem?_eq_getElem hj]
  rfl

/-- What reads hands back: a new row, the steps L. -/
def ReadsPost (L : List Stp) (w : World) (e : Ending) (w' : World) : Prop := ∃ g' cap' : Nat, e = .returned (.slice (some ⟨g', 0, none⟩) L.length cap') ∧ Below w.heap.size w w' ∧ StRow g' L.length (fun i => L.getD i dfl) w' ∧ w.heap.size ≤ g' ∧ g' < w'.heap.size

set_option maxRecDepth 10000 in
set_option maxHeartbeats 3200000 in
theorem reads_scan (g n cap : Nat) (S : Nat → Stp) (w : World) (hn : n ≤ 1024) (hst : StRow g n S w) (hg : g < w.heap.size) (hs : ∀ i, Scs (S i)) (hex : ∃ i, i < n ∧ (S i).kd = 3) :
    Calls Yba.prog 11 #[.slice (some ⟨g, 0, none⟩) n cap] w fun e w' => ReadsPost (expL (keysL S n) S n) w e w' := by
  have HST : Hid (StRow g n S w) := hst
  have HS : Hid (∀ i, Scs (S i)) := hs
  have HEX : Hid (∃ i, i < n ∧ (S i).kd = 3) := hex
  clear hst hs hex
  obtain ⟨i0, hi, hz0, hz1, hz2⟩ := info_parts Yba.info31
  go_enter Yba.func11, Yba.ntmps11
  go_wp2_with fail
  refine (contains13 g n cap S _ (by omega) HST.out hg true ⟨fun _ => HEX.out, fun _ => rfl⟩).mono ?_
  rintro e w1 ⟨rfl, hb1⟩
  have HB1 : Hid (Below w.heap.size w w1) := hb1
  clear hb1
  go_wp2_with fail
  refine (keys15 g n cap S w1 hn (HST.out.below HB1.out hg) (by have := HB1.out.size; omega) HS.out).mono ?_
  rintro e w2 ⟨kv, rfl, hkr, hb2⟩
  have HK3 : Hid ((keysL S n).length ≤ 3) := keysL_len S n
  have HKD : Hid (∃ B, keysL S n = key3.filter B) := ⟨_, rfl⟩
  have HKE : Hid (keysL S n = keysL S n) := rfl
  generalize hKK : keysL S n = K at HKE HKD HK3 hkr
  have HKQ : Hid (keysL S n = K) := hKK
  clear hKK HKE
  have HKR : Hid (w2.ownsRow w1.heap.size 9 1 kv K.length (K.map Value.string)) := hkr
  have HB2 : Hid (Below w.heap.size w w2) := HB1.out.trans (hb2.mono HB1.out.size)
  have HST2 : Hid (StRow g n S w2) := HST.out.below HB2.out hg
  have hg2 : g < w2.heap.size := by have := HB2.out.size; omega
  clear hkr hb2 HEX HB1 HST
  go_wp2_with (at_make; refine wpList_make_own _ rfl _ _ 23 rfl w2.heap.size 31 i0 _ 9 Yba.underlying23 hi hz0 hz1 _ _ _ n rfl rfl (by first | rfl | omega) ?b2 ?b3 (Nat.le_refl _) ?_)
  case b2 => rw [hz2]; omega
  case b3 => unfold maxLen; omega
  intro w3 hown3 hgr3
  have HOWN3 : Hid (w3.ownsRow w2.heap.size 31 9 (.slice (some ⟨w2.heap.size, 0, none⟩) 0 n) 0 []) := hown3
  have HB3 : Hid (Below w2.heap.size w2 w3) := (Below.refl _ _).grown hgr3 (Nat.le_refl _) (fun k h => by cases h)
  clear hown3 hgr3
  go_wp2_with fail
  go_loopg [4, 22] n (fun gn sv iv wr => ∃ m go co : Nat, gn = n - m ∧ m ≤ n ∧ sv = .slice (some ⟨go, 0, none⟩) (expL K S m).length co ∧ iv = .int .i64 m ∧ wr.ownsRow w2.heap.size 31 9 (.slice (some ⟨go, 0, none⟩) (expL K S m).length co) (expL K S m).length (flat (expL K S m)) ∧ Below w2.heap.size w2 wr)
  case atStart => exact ⟨0, w2.heap.size, n, rfl, Nat.zero_le _, rfl, rfl, HOWN3.out, HB3.out⟩
  case round =>
    clear HOWN3 HB3
    obtain ⟨m, go, co, hgm, hm, rfl, rfl, hown, hbel⟩ := hrel
    have HGM : Hid (gk = n - m) := hgm
    have HOWN : Hid (wr.ownsRow w2.heap.size 31 9 (.slice (some ⟨go, 0, none⟩) (expL K S m).length co) (expL K S m).length (flat (expL K S m))) := hown
    have HB : Hid (Below w2.heap.size w2 wr) := hbel
    have HLEN : Hid ((expL K S m).length ≤ 3 * m) := expL_len K HK3.out S m
    clear hgm hown hbel
    by_cases hlt : m < n
    · have hlt' : (m : Int) < (n : Int) := by omega
      have hrw : StRow g n S wr := HST2.out.below HB.out hg2
      have k0 := hrw.cell m hlt 0 (by omega)
      have k1 := hrw.cell m hlt 1 (by omega)
      have k2 := hrw.cell m hlt 2 (by omega)
      have k3 := hrw.cell m hlt 3 (by omega)
      have k4 := hrw.cell m hlt 4 (by omega)
      have k5 := hrw.cell m hlt 5 (by omega)
      have k6 := hrw.cell m hlt 6 (by omega)
      have k7 := hrw.cell m hlt 7 (by omega)
      have k8 := hrw.cell m hlt 8 (by omega)
      simp only [stCell, Nat.add_zero] at k0 k1 k2 k3 k4 k5 k6 k7 k8
      clear hrw
      go_upto_region 8 with fail
      change Code.wp _ _ _ _ (wr.alloc (stepObj (S m)))
      have HS1 : Hid (StepAt wr.heap.size (S m) (wr.alloc (stepObj (S m)))) := StepAt.new _ _
      have HB4 : Hid (Below w2.heap.size w2 (wr.alloc (stepObj (S m)))) := HB.out.alloc HB.out.size _
      have HO4 : Hid ((wr.alloc (stepObj (S m))).ownsRow w2.heap.size 31 9 (.slice (some ⟨go, 0, none⟩) (expL K S m).length co) (expL K S m).length (flat (expL K S m))) := HOWN.out.alloc _
      have hgo : go < wr.heap.size := (own_block HOWN.out rfl).2
      have HSZ : Hid (w2.heap.size ≤ wr.heap.size) := HB.out.size
      clear k0 k1 k2 k3 k4 k5 k6 k7 k8 HB HOWN
      generalize hw4 : wr.alloc (stepObj (S m)) = w4 at *
      clear hw4
      generalize wr.heap.size = bs at *
      have t0 := HS1.out.c0
      have t1 := HS1.out.c1
      have t2 := HS1.out.c2
      have hb5 := HS1.out.blk
      have t3 : w4.cell? ⟨bs, 3, none⟩ = some (.string (S m).px) := by simp [World.cell?, hb5]
      have t4 : w4.cell? ⟨bs, 4, none⟩ = some (.string ⟨#[]⟩) := by simp [World.cell?, hb5]
      have t5 : w4.cell? ⟨bs, 5, none⟩ = some (.int .u8 0) := by simp [World.cell?, hb5]
      have t6 : w4.cell? ⟨bs, 6, none⟩ = some (.int .i64 0) := by simp [World.cell?, hb5]
      have t7 : w4.cell? ⟨bs, 7, none⟩ = some (.int .i64 0) := by simp [World.cell?, hb5]
      have t8 : w4.cell? ⟨bs, 8, none⟩ = some (.string ⟨#[]⟩) := by simp [World.cell?, hb5]
      clear hb5
      have HEXP : Hid (expL K S (m + 1) = expL K S m ++ exp1 K (S m)) := rfl
      have HSC : Hid (Scs (S m)) := HS.out m
      generalize S m = ss at *
      generalize expL K S m = L at *
      by_cases hk3 : ss.kd = 3
      · have hk3' : (ss.kd != 3) = false := by rw [hk3]; rfl
        rcases HKR.out.2 with ⟨hkv, hk0⟩ | ⟨gk1, ck, cur, hkv, hgk, hcur, hckl, _⟩
        · have hK0 : K = [] := List.eq_nil_of_length_eq_zero hk0
          have HX : Hid (exp1 K ss = []) := by show exp1 K ss = []; unfold exp1; rw [if_pos hk3, hK0]; rfl
          subst hkv
          go_wp2_with fail
          refine (search16_nil ss.px w4).mono ?_
          rintro e w5 ⟨rfl, rfl⟩
          go_wp2_with fail
          clear t0 t1 t2 t3 t4 t5 t6 t7 t8
          go_loopg [4, 44] 0 (fun gn sv jv wx => gn = 0 ∧ sv = .slice (some ⟨go, 0, none⟩) L.length co ∧ jv = .int .i64 0 ∧ w4 = wx)
          case atStart => exact ⟨rfl, rfl, rfl, rfl⟩
          case round =>
            obtain ⟨_, rfl, rfl, rfl⟩ := hrel
            go_wp2_with fail
            go_roundg (n - (m + 1))
            case measure => rw [HGM.out]; omega
            case rel =>
              refine ⟨m + 1, go, co, rfl, by omega, ?_, by go_num, ?_, HB4.out⟩
              · rw [HEXP.out, HX.out]; simp
              · rw [HEXP.out, HX.out, List.append_nil]; exact HO4.out
        · have hgk2 : gk1 < w2.heap.size := lt_of_block hcur
          have hcl : ∀ wx, Below w2.heap.size w2 wx → ∀ j, j < K.length → wx.cell? ⟨gk1, j, none⟩ = some (.string (K.getD j ⟨#[]⟩)) := fun wx hbx j hj => by
            rw [hbx.cell (p := ⟨gk1, j, none⟩) hgk2]
            exact own_cells (by rw [← hkv]; exact HKR.out) j hj
          have HCL : Hid _ := hcl
          clear hcl hcur
          subst hkv
          have hK3 := HK3.out
          go_wp2_with fail
          refine (search16 gk1 ck K ss.px w4 (by omega) (fun j hj => by rw [Nat.zero_add]; exact HCL.out w4 HB4.out j hj)).mono ?_
          rintro e w5 ⟨bb, rfl, q, rfl⟩
          obtain ⟨hz, htw⟩ : bsOf K ss.px ≤ K.length ∧ (K.drop (bsOf K ss.px)).takeWhile (preB ss.px) = K.filter (preB ss.px) := by
            obtain ⟨B, rfl⟩ := HKD.out
            exact srch B ss.px HSC.out.px
          generalize bsOf K ss.px = z at *
          have HX : Hid (exp1 K ss = ((K.drop z).takeWhile (preB ss.px)).map (rdOf ss)) := by show exp1 K ss = _; unfold exp1; rw [if_pos hk3, htw]
          have hz' : (z : Int) ≤ (K.length : Int) := by omega
          have HB5 : Hid (Below w2.heap.size w2 (w4.drewN q)) := HB4.out.grown (grown_drewN _ _) HB4.out.size (fun k h => by cases h)
          have HO5 : Hid ((w4.drewN q).ownsRow w2.heap.size 31 9 (.slice (some ⟨go, 0, none⟩) L.length co) L.length (flat L)) := HO4.out.kept (grown_drewN _ _) (.inr (by simp [Value.ownBlock]))
          have HS5 : Hid (StepAt bs ss (w4.drewN q)) := ⟨HS1.out.blk⟩
          clear HB4 HO4 HS1 htw
          clear t0 t1 t2 t3 t4 t5 t6 t7 t8
          generalize w4.drewN q = w5 at *
          by_cases hcz : ck = z
          · have hlz : K.length = z := by omega
            subst hcz
            subst hlz
            go_wp2_with fail
            go_loopg [4, 44] 0 (fun gn sv jv wx => gn = 0 ∧ sv = .slice (some ⟨go, 0, none⟩) L.length co ∧ jv = .int .i64 0 ∧ w5 = wx)
            case atStart => exact ⟨rfl, rfl, rfl, rfl⟩
            case round =>
              obtain ⟨_, rfl, rfl, rfl⟩ := hrel
              go_wp2_with fail
              go_roundg (n - (m + 1))
              case measure => rw [HGM.out]; omega
              case rel =>
                refine ⟨m + 1, go, co, rfl, by omega, ?_, by go_num, ?_, HB5.out⟩
                · rw [HEXP.out, HX.out]; simp
                · rw [HEXP.out, HX.out, List.drop_length]; simpa using HO5.out
          · go_wp2_with fail
            have hTN : (K.drop z).length = K.length - z := by simp
            generalize hN : K.length - z = N at *
            have HN : Hid (K.length = z + N) := by show K.length = z + N; omega
            have HD : Hid (∀ j (h : j < (K.drop z).length), (K.drop z)[j] = K.getD (z + j) ⟨#[]⟩) := fun j h => drop_getD K z j h
            have HTN : Hid ((K.drop z).length = N) := hTN
            generalize K.drop z = T at *
            have hN3 : N ≤ 3 := by omega
            clear hTN
            go_loopg [4, 44] N (fun gn sv jv wx => ∃ j g2 c2 : Nat, gn = N - j ∧ j ≤ N ∧ sv = .slice (some ⟨g2, 0, none⟩) (L ++ (T.take j).map (rdOf ss)).length c2 ∧ jv = .int .i64 j ∧ wx.ownsRow w2.heap.size 31 9 (.slice (some ⟨g2, 0, none⟩) (L ++ (T.take j).map (rdOf ss)).length c2) (L ++ (T.take j).map (rdOf ss)).length (flat (L ++ (T.take j).map (rdOf ss))) ∧ Below w2.heap.size w2 wx ∧ StepAt bs ss wx ∧ g2 ≠ bs ∧ (∀ i, (h : i < T.length) → i < j → preB ss.px T[i] = true))
            case atStart => exact ⟨0, go, co, rfl, Nat.zero_le _, by simp, rfl, by simpa using HO5.out, HB5.out, HS5.out, by omega, fun i _ h => absurd h (by omega)⟩
            case round =>
              clear HO5 HB5 HS5
              obtain ⟨j, g2, c2, hgj, hj, rfl, rfl, hown, hbel, hstp, hne, hall⟩ := hrel
              have HGJ : Hid (gk = N - j) := hgj
              have HB : Hid (Below w2.heap.size w2 wr) := hbel
              have HS6 : Hid (StepAt bs ss wr) := hstp
              have HALL : Hid (∀ i, (h : i < T.length) → i < j → preB ss.px T[i] = true) := hall
              have HXL : Hid (∀ h : j < T.length, T.take (j + 1) = T.take j ++ [T[j]]) := fun h => take_snoc T j h
              have HTL : Hid ((T.take j).length = j) := by show (T.take j).length = j; rw [List.length_take, HTN.out]; omega
              have hlle : (L ++ (T.take j).map (rdOf ss)).length ≤ 3 * m + j := by
                rw [List.length_append, List.length_map, HTL.out]
                have := HLEN.out
                omega
              generalize hLL : L ++ (T.take j).map (rdOf ss) = LL at *
              have HLE : Hid (L ++ (T.take j).map (rdOf ss) = LL) := hLL
              have HLL : Hid (LL.length ≤ 3 * m + j) := hlle
              have HOWN : Hid (wr.ownsRow w2.heap.size 31 9 (.slice (some ⟨g2, 0, none⟩) LL.length c2) LL.length (flat LL)) := hown
              clear hLL hlle
              clear hgj hown hbel hstp hall
              by_cases hjn : j < N
              · have hjn' : (j : Int) < (N : Int) := by omega
                have hkc := HCL.out wr HB.out (z + j) (by have := HN.out; omega)
                have hjT : j < T.length := by rw [HTN.out]; exact hjn
                have HTJ : Hid (T[j] = K.getD (z + j) ⟨#[]⟩) := HD.out j hjT
                have hb6 := HS6.out.blk
                have t3 : wr.cell? ⟨bs, 3, none⟩ = some (.string ss.px) := by simp [World.cell?, hb6]
                have t1 := HS6.out.c1
                have t7 : wr.cell? ⟨bs, 7, none⟩ = some (.int .i64 0) := by simp [World.cell?, hb6]
                have t8 : wr.cell? ⟨bs, 8, none⟩ = some (.string ⟨#[]⟩) := by simp [World.cell?, hb6]
                clear hb6
                generalize K.getD (z + j) ⟨#[]⟩ = kj at *
                cases hpre : preB ss.px kj
                · go_wp2_with fail
                  refine (prefix10 kj ss.px wr).mono ?_
                  rintro e w6 ⟨rfl, rfl⟩
                  rw [hpre]
                  have HTK : Hid (T.takeWhile (preB ss.px) = T.take j) := tw_take _ T j HALL.out (fun _ => by rw [HTJ.out]; exact hpre)
                  go_wp2_with fail
                  go_roundg (n - (m + 1))
                  case measure => rw [HGM.out]; omega
                  case rel =>
                    refine ⟨m + 1, g2, c2, rfl, by omega, ?_, by go_num, ?_, HB.out⟩
                    · rw [HEXP.out, HX.out, HTK.out, HLE.out]
                    · rw [HEXP.out, HX.out, HTK.out, HLE.out]; exact HOWN.out
                · go_wp2_with fail
                  refine (prefix10 kj ss.px wr).mono ?_
                  rintro e w6 ⟨rfl, rfl⟩
                  rw [hpre]
                  have hnew := news_step (rdOf ss kj) wr
                  have hone := one_step (rdOf ss kj)
                  have hown6 := HOWN.out.alloc (.cells #[.int .u8 1, .int .i64 ss.tx, .string kj, .string ⟨#[]⟩, .string ⟨#[]⟩, .int .u8 0, .int .i64 0, .int .i64 0, .string ⟨#[]⟩] 31 (0, 0))
                  have hll := HLL.out
                  have hbs := HB.out.size
                  have HLS : Hid (flat (L ++ (T.take (j + 1)).map (rdOf ss)) = flat LL ++ stCells (rdOf ss kj) ∧ (L ++ (T.take (j + 1)).map (rdOf ss)).length = LL.length + 1) := by
                    rw [HXL.out hjT, HTJ.out, List.map_append, List.map_singleton, ← List.append_assoc, flat_snoc, HLE.out]
                    exact ⟨rfl, by rw [List.length_append]; rfl⟩
                  go_wp2_with (at_builtin; refine wpList_append_lies _ rfl _ _ 23 rfl w2.heap.size 31 i0 _ 9 104 Yba.underlying23 hi hz0 hz1 hz2 rfl (by omega) _ LL.length (flat LL) rfl hown6 ⟨wr.heap.size, 0, none⟩ 1 1 (stCells (rdOf ss kj)) rfl rfl hnew hone (by omega) (by unfold maxLen; omega) (by omega) (by simp; omega) _ rfl ?_)
                  intro g7 c7 w7 hown7 hgr7 hat7 hlt7
                  have HOWN7 : Hid (w7.ownsRow w2.heap.size 31 9 (.slice (some ⟨g7, 0, none⟩) (LL.length + 1) c7) (LL.length + 1) (flat LL ++ stCells (rdOf ss kj))) := hown7
                  have HB7 : Hid (Below w2.heap.size w2 w7) := (HB.out.alloc HB.out.size _).grown hgr7 (by simp; omega) (fun k hk => (hown6.lt k hk).1)
                  have HS7 : Hid (StepAt bs ss w7) := (HS6.out.kept (World.grownBy_alloc _ _ none) (by simp)).kept hgr7 (by simpa [Value.ownBlock] using hne)
                  have HNE7 : Hid (g7 ≠ bs) := by
                    have := HS6.out.lt
                    rcases hat7 with h | h
                    · have : g2 = g7 := by simpa [Value.ownBlock] using h
                      show g7 ≠ bs
                      omega
                    · show g7 ≠ bs
                      rw [h]
                      simp
                      omega
                  clear hown7 hgr7 hat7 hlt7 hnew hone hown6 t1 t3 t7 t8
                  go_wp2_with fail
                  go_roundg (N - (j + 1))
                  case measure => rw [HGJ.out]; omega
                  case rel =>
                    refine ⟨j + 1, g7, c7, rfl, by omega, ?_, by go_num, ?_, HB7.out, HS7.out, HNE7.out, fun i h hij => ?_⟩
                    · rw [HLS.out.2]
                    · rw [HLS.out.2, HLS.out.1]; exact HOWN7.out
                    · by_cases e : i = j
                      · subst e; rw [HTJ.out]; exact hpre
                      · exact HALL.out i h (by omega)
              · obtain rfl : j = N := by omega
                have HTK : Hid (T.takeWhile (preB ss.px) = T.take j) := tw_take _ T j HALL.out (fun h => by rw [HTN.out] at h; omega)
                go_wp2_with fail
                go_roundg (n - (m + 1))
                case measure => rw [HGM.out]; omega
                case rel =>
                  refine ⟨m + 1, g2, c2, rfl, by omega, ?_, by go_num, ?_, HB.out⟩
                  · rw [HEXP.out, HX.out, HTK.out, HLE.out]
                  · rw [HEXP.out, HX.out, HTK.out, HLE.out]; exact HOWN.out
      · have hk3' : (ss.kd != 3) = true := by simpa using hk3
        have HX : Hid (exp1 K ss = [ss]) := by show exp1 K ss = [ss]; unfold exp1; exact if_neg hk3
        have hnew := news_step ss w4
        have hone := one_step ss
        have hown6 := HO4.out.alloc (.cells #[.int .u8 ss.kd, .int .i64 ss.tx, .string ss.ky, .string ss.px, .string ⟨#[]⟩, .int .u8 0, .int .i64 0, .int .i64 0, .string ⟨#[]⟩] 31 (0, 0))
        have hll := HLEN.out
        have hbs := HB4.out.size
        go_wp2_with (at_builtin; refine wpList_append_lies _ rfl _ _ 23 rfl w2.heap.size 31 i0 _ 9 104 Yba.underlying23 hi hz0 hz1 hz2 rfl (by omega) _ L.length (flat L) rfl hown6 ⟨w4.heap.size, 0, none⟩ 1 1 (stCells ss) rfl rfl hnew hone (by omega) (by unfold maxLen; omega) (by omega) (by simp; omega) _ rfl ?_)
        intro g7 c7 w7 hown7 hgr7 hat7 hlt7
        have HOWN7 : Hid (w7.ownsRow w2.heap.size 31 9 (.slice (some ⟨g7, 0, none⟩) (L.length + 1) c7) (L.length + 1) (flat L ++ stCells ss)) := hown7
        have HB7 : Hid (Below w2.heap.size w2 w7) := (HB4.out.alloc HB4.out.size _).grown hgr7 (by simp; omega) (fun k hk => (hown6.lt k hk).1)
        clear hown7 hgr7 hat7 hlt7 hnew hone hown6 t0 t1 t2 t3 t4 t5 t6 t7 t8
        go_wp2_with fail
        go_roundg (n - (m + 1))
        case measure => rw [HGM.out]; omega
        case rel =>
          refine ⟨m + 1, g7, c7, rfl, by omega, ?_, by go_num, ?_, HB7.out⟩
          · rw [HEXP.out, HX.out]; simp
          · rw [HEXP.out, HX.out, flat_snoc]; simpa using HOWN7.out
    · obtain rfl : m = n := by omega
      obtain ⟨_, hgl⟩ := own_block HOWN.out rfl
      have HG : Hid (w.heap.size ≤ go) := by
        have h1 := (HOWN.out.lt go rfl).1
        have h2 := HB2.out.size
        show w.heap.size ≤ go
        omega
      have HR : Hid (StRow go (expL K S m).length (fun i => (expL K S m).getD i dfl) wr) := flat_row HOWN.out
      have HBB : Hid (Below w.heap.size w wr) := HB2.out.trans (HB.out.mono HB2.out.size)
      go_wp2_with fail
      go_ret
      rw [HKQ.out]
      exact ⟨go, co, rfl, HBB.out, HR.out, HG.out, hgl⟩

end Go.Proofs.Ybulkdao
