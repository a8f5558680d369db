/-
  zzs0192cadj (function 5), walked: the graph's lists.
-/
import Derived.Test.YbulkcykRunPre2
namespace Go.Proofs.Ybulkcyk
open Go.RowKit
set_option linter.unusedSimpArgs false

/-- The lists half way: the outer row stands for the struct. -/
def RwD (n : Nat) (V : Nat → Value) (r : Nat → List Nat) : Tag → Option RowSpec
  | .bls v => if v < n then some (rowI (V v) (r v)) else none
  | _ => none
structure AD (w0 : World) (ga n : Nat) (own : Nat → Tag) (V : Nat → Value) (r : Nat → List Nat) (w : World) : Prop where
  mi : MI w0 w0 ga (ga + 1) 26 own ((List.range n).map V).toArray (RwD n V r) w
  g0 : ga = w0.heap.size
section
variable {w0 w w' : World} {ga n : Nat} {own : Nat → Tag} {V : Nat → Value} {r : Nat → List Nat}
theorem AD.start (w : World) (n : Nat) : ∃ own V, AD w w.heap.size n own V (fun _ => []) (w.alloc (.cells (madeCells #[.slice none 0 0] n) 26)) := by
  refine ⟨fun _ => .blsO, fun _ => .slice none 0 0, ⟨(Below.refl _ _).alloc (Nat.le_refl _) _, Nat.le_refl _, Nat.lt_succ_self _, by simp, fun y hy hne => ?_, ?_, fun t q hq => ?_⟩, rfl⟩
  · exact (World.grownBy_alloc w _ none).block y (by omega) (by simp)
  · have h := heap_alloc_new w (.cells (madeCells #[.slice none 0 0] n) 26)
    rw [h]
    congr 2
    rw [← made_list]
  · cases t with
    | bls v =>
      have hq' : (if v < n then some (rowI (.slice none 0 0) []) else none) = some q := hq
      split at hq'
      · cases hq'
        exact ⟨⟨rfl, .inl ⟨rfl, rfl⟩⟩, fun k hk => by cases hk⟩
      · cases hq'
    | _ => cases hq
theorem AD.cell (h : AD w0 ga n own V r w) {v : Nat} (hv : v < n) : w.cell? ⟨ga, v, none⟩ = some (V v) ∧ w.frozen? ⟨ga, v, none⟩ = false :=
  ⟨h.mi.cell (by simp [hv]), h.mi.frozen v⟩
theorem AD.form (h : AD w0 ga n own V r w) {x : Nat} (hx : x < n) : ∃ p cap, V x = .slice p (r x).length cap := by
  have hR : RwD n V r (.bls x) = some (rowI (V x) (r x)) := if_pos hx
  rcases (h.mi.row _ _ hR).1.2 with ⟨e1, e2⟩ | ⟨g, cap, cur, h1, _⟩
  · have e2' : (r x).length = 0 := e2
    rw [e2']; exact ⟨_, _, e1⟩
  · exact ⟨_, _, h1⟩
theorem AD.push (h : AD w0 ga n own V r w) (x v : Nat) (hx : x < n) {g cap : Nat} (hg : w.grownBy w' (V x).ownBlock) (ho : w'.ownsRow (ga + 1) 3 1 (.slice (some ⟨g, 0, none⟩) ((r x).length + 1) cap) ((r x).length + 1) ((r x).map iv ++ [iv v])) (hat : (V x).ownBlock = some g ∨ w.heap.size ≤ g) :
    ∃ own' V', AD w0 ga n own' V' (upd r x (r x ++ [v])) (w'.setCell ⟨ga, x, none⟩ (.slice (some ⟨g, 0, none⟩) ((r x).length + 1) cap)) := by
  have hR : RwD n V r (.bls x) = some (rowI (V x) (r x)) := if_pos hx
  obtain ⟨own', M⟩ := h.mi.app (t := .bls x) hR hg ho hat
  have M2 := M.setC x (.slice (some ⟨g, 0, none⟩) ((r x).length + 1) cap)
  refine ⟨own', upd V x (.slice (some ⟨g, 0, none⟩) ((r x).length + 1) cap), M2.congr (fun t q hr => ?_) ?_, h.g0⟩
  · cases t with
    | bls y =>
      by_cases e : y = x
      · subst e
        rw [updT_same, ← hr]
        show some _ = (if y < n then some (rowI (upd _ _ _ y) (upd _ _ _ y)) else none)
        rw [if_pos hx, upd_same, upd_same]
        simp [rowI]
      · rw [updT_other _ _ (by simp [e]), ← hr]
        show (if y < n then some (rowI (V y) (r y)) else none) = (if y < n then some (rowI (upd _ _ _ y) (upd _ _ _ y)) else none)
        rw [upd_other _ _ e, upd_other _ _ e]
    | _ => cases hr
  · rw [← map_set]
    simp
theorem AD.lists (h : AD w0 ga n own V r w) : Lists w w.heap.size w.heap.size n (sl ga n) r := by
  have hsz := h.mi.sz
  refine ⟨ga, n, rfl, by omega, by omega, fun v hv => ?_⟩
  have hR : RwD n V r (.bls v) = some (rowI (V v) (r v)) := if_pos hv
  have hr := h.mi.row _ _ hR
  rcases hr.1.2 with ⟨e1, e2⟩ | ⟨g, cap, cur, h1, _⟩
  · have e2' : (r v).length = 0 := e2
    refine ⟨none, 0, ?_, fun h0 => by omega⟩
    rw [(h.cell hv).1, e2']
    exact congrArg some e1
  · have h1' : V v = .slice (some ⟨g, 0, none⟩) (r v).length cap := h1
    have hl := hr.1.lt (k := g) (by rw [show (rowI (V v) (r v)).v = V v from rfl, h1']; rfl)
    refine ⟨_, cap, by rw [(h.cell hv).1, h1'], fun _ => ⟨g, rfl, hl.2, by omega, fun i hi => ?_⟩⟩
    have := hr.1.cell (i := i) (u := iv ((r v).getD i 0)) h1' (by
      show ((r v).map iv)[i]? = _
      rw [List.getElem?_map, List.getD_eq_getElem?_getD, List.getElem?_eq_getElem hi]
      rfl)
    simpa [rowI] using this
end
/-- The bit as the program reads it. -/
def bitZ (m : Int) (k : Nat) : Bool := bits BinOp.and IntKind.u8 (m / 2 ^ k) 1 == 1
def gG (n len : Nat) (z : Nat → Int) (v : Nat) : List Nat := if v < len then (List.range n).filter (fun u => bitZ (z v) u) else []
def gA (n len : Nat) (z : Nat → Int) (v : Nat) : List Nat := if v < n then gG n len z v else []
def gK (n len : Nat) (z : Nat → Int) (i k : Nat) (v : Nat) : List Nat := if v < i then gG n len z v else if v = i then (List.range k).filter (fun u => bitZ (z i) u) else []
theorem gK_zero (n len : Nat) (z : Nat → Int) : gK n len z 0 0 = fun _ => [] := by
  funext v
  unfold gK
  rw [if_neg (by omega)]
  split <;> rfl
theorem gK_skip (n len : Nat) (z : Nat → Int) (i : Nat) (h : ¬ i < len) : gK n len z i 0 = gK n len z (i + 1) 0 := by
  funext v
  unfold gK
  by_cases h1 : v < i
  · rw [if_pos h1, if_pos (by omega)]
  · rw [if_neg h1]
    by_cases h2 : v = i
    · rw [if_pos h2, if_pos (by omega), h2]
      unfold gG
      rw [if_neg h]; rfl
    · rw [if_neg h2, if_neg (by omega)]
      split <;> rfl
theorem gK_next (n len : Nat) (z : Nat → Int) (i : Nat) (h : i < len) : gK n len z i n = gK n len z (i + 1) 0 := by
  funext v
  unfold gK
  by_cases h1 : v < i
  · rw [if_pos h1, if_pos (by omega)]
  · rw [if_neg h1]
    by_cases h2 : v = i
    · rw [if_pos h2, if_pos (by omega), h2]
      unfold gG
      rw [if_pos h]
    · rw [if_neg h2, if_neg (by omega)]
      split <;> rfl
theorem gK_no (n len : Nat) (z : Nat → Int) (i k : Nat) (h : bitZ (z i) k = false) : gK n len z i (k + 1) = gK n len z i k := by
  funext v
  unfold gK
  rw [List.range_succ, List.filter_append, List.filter_cons_of_neg (by rw [h]; simp), List.filter_nil, List.append_nil]
theorem gK_yes (n len : Nat) (z : Nat → Int) (i k : Nat) (h : bitZ (z i) k = true) : gK n len z i (k + 1) = upd (gK n len z i k) i (gK n len z i k i ++ [k]) := by
  funext v
  by_cases h2 : v = i
  · subst h2
    rw [upd_same]
    unfold gK
    simp only [Nat.lt_irrefl, if_false, if_true]
    rw [List.range_succ, List.filter_append, List.filter_cons_of_pos (by rw [h]), List.filter_nil]
  · rw [upd_other _ _ h2]
    unfold gK
    rw [if_neg h2, if_neg h2]
theorem gK_len (n len : Nat) (z : Nat → Int) (i k : Nat) : (gK n len z i k i).length ≤ k := by
  unfold gK
  rw [if_neg (by omega), if_pos rfl]
  have := List.length_filter_le (fun u => bitZ (z i) u) (List.range k)
  rw [List.length_range] at this
  exact this
theorem gK_all (n len : Nat) (z : Nat → Int) : gK n len z n 0 = gA n len z := by
  funext v
  unfold gK gA
  by_cases h : v < n
  · rw [if_pos h, if_pos h]
  · rw [if_neg h, if_neg h]
    split <;> rfl
theorem gA_lt {n len : Nat} {z : Nat → Int} : ∀ v, ∀ u ∈ gA n len z v, u < n := fun v u hu => by
  unfold gA gG at hu
  split at hu
  · split at hu
    · exact List.mem_range.1 (List.mem_filter.1 hu).1
    · cases hu
  · cases hu
theorem gA_srt {n len : Nat} {z : Nat → Int} : ∀ v, (gA n len z v).Pairwise (· < ·) := fun v => by
  unfold gA gG
  split
  · split
    · exact range_filter_sorted _ _
    · exact List.Pairwise.nil
  · exact List.Pairwise.nil

set_option maxRecDepth 10000 in
set_option maxHeartbeats 4000000 in
theorem adj5 (n len cap : Nat) (pm : Option Addr) (z : Nat → Int) (w : World) (hn7 : n ≤ 7) (hlc : len ≤ maxLen) (hz : ∀ v, v < len → 0 ≤ z v ∧ z v < 256) (hm : ∀ v, v < len → ∃ x, pm = some x ∧ w.cell? (x.add v) = some (.int .u8 (z v))) : Calls Yba.prog 5 #[iv n, .slice pm len cap] w fun e w' => e = .returned (sl w.heap.size n) ∧ ∃ own V, AD w w.heap.size n own V (gA n len z) w' := by
  have HM : Hid (∀ v, v < len → ∃ x, pm = some x ∧ w.cell? (x.add v) = some (.int .u8 (z v))) := hm
  have HZ : Hid (∀ v, v < len → 0 ≤ z v ∧ z v < 256) := hz
  have hmk := mk23 n (by omega)
  have hlm : (len : Int) ≤ 9223372036854775807 := by unfold maxLen at hlc; omega
  obtain ⟨i0, hi, hzz0, hzz1, hzz2⟩ := info_parts Yba.info3
  have HA0 : Hid (∃ own V, AD w w.heap.size n own V (fun _ => []) (w.alloc (.cells (madeCells #[.slice none 0 0] n) 26))) := AD.start w n
  clear hm hz
  go_enter Yba.func5, Yba.ntmps5
  go_upto_region 2 with fail
  clear hmk
  generalize w.alloc (.cells (madeCells #[.slice none 0 0] n) 26) = w1 at *
  generalize hga : w.heap.size = ga at *
  have HGA : Hid (w.heap.size = ga) := hga
  have H00 : Hid (gK n len z 0 0 = fun _ => []) := gK_zero n len z
  clear hga
  go_wp2_with fail
  go_loopg [6] n (fun gn kv wr => ∃ i : Nat, gn = n - i ∧ i ≤ n ∧ kv = iv i ∧ ∃ own V, AD w ga n own V (gK n len z i 0) wr)
  case atStart => exact ⟨0, rfl, Nat.zero_le _, rfl, by rw [H00.out]; exact HA0.out⟩
  case round =>
    clear HA0 H00
    obtain ⟨i, hgi, hin, rfl, own1, V1, hV1⟩ := hrel
    have HGI : Hid (gk = n - i) := hgi
    have HV1 : Hid (AD w ga n own1 V1 (gK n len z i 0) wr) := hV1
    clear hgi hV1
    by_cases hi1 : i < n
    · have hi1' : (i : Int) < (n : Int) := by omega
      by_cases hil : i < len
      · have hil' : (i : Int) < (len : Int) := by omega
        obtain ⟨x, rfl, hx⟩ := HM.out i hil
        obtain ⟨hz0, hz1⟩ := HZ.out i hil
        have HX : Hid (w.cell? (x.add i) = some (.int .u8 (z i))) := hx
        have HNX : Hid (gK n len z i n = gK n len z (i + 1) 0) := gK_next n len z i hil
        have hil2 : decide (len ≤ i) = false := decide_eq_false (by omega)
        have hil3 : decide ((len : Int) ≤ (i : Int)) = false := decide_eq_false (by omega)
        clear hx
        go_wp2_with fail
        go_loopg [7] n (fun gn kv wr => ∃ k : Nat, gn = n - k ∧ k ≤ n ∧ kv = iv k ∧ ∃ own V, AD w ga n own V (gK n len z i k) wr)
        case atStart => exact ⟨0, rfl, Nat.zero_le _, rfl, _, _, HV1.out⟩
        case round =>
          clear HV1
          obtain ⟨k, hgk, hk, rfl, own3, V3, hV3⟩ := hrel
          have HGK : Hid (gk = n - k) := hgk
          have HY : Hid (bitZ (z i) k = true → gK n len z i (k + 1) = upd (gK n len z i k) i (gK n len z i k i ++ [k])) := gK_yes n len z i k
          have HN : Hid (bitZ (z i) k = false → gK n len z i (k + 1) = gK n len z i k) := gK_no n len z i k
          have hrl := gK_len n len z i k
          have HALL : Hid (k = n → gK n len z (i + 1) 0 = gK n len z i k) := fun h => by rw [h]; exact HNX.out.symm
          generalize gK n len z i k = r at *
          have HV3 : Hid (AD w ga n own3 V3 r wr) := hV3
          have hx1 : wr.cell? (x.add i) = some (.int .u8 (z i)) := by
            have hb := hV3.mi.bel
            have hlt : (x.add i).block < w.heap.size := by
              rcases Nat.lt_or_ge (x.add i).block w.heap.size with q | q
              · exact q
              · have := HX.out
                simp [World.cell?, Array.getElem?_eq_none q] at this
            rw [World.cell?_of_block (hb.block _ hlt)]
            exact HX.out
          clear hV3 hgk
          by_cases hlt : k < n
          · have hlt' : (k : Int) < (n : Int) := by omega
            have hk7 : (k : Int) < 7 := by omega
            have hbz : (bits BinOp.and IntKind.u8 (z i / 2 ^ k) 1 == 1) = bitZ (z i) k := rfl
            cases hb : bitZ (z i) k
            · rw [hb] at hbz
              have HN1 : Hid (gK n len z i (k + 1) = r) := HN.out hb
              clear hb
              go_wp2_with fail
              go_roundg (n - (k + 1))
              case measure => rw [HGK.out]; omega
              case rel => exact ⟨k + 1, rfl, by omega, by go_num, _, _, by rw [HN1.out]; exact HV3.out⟩
            · rw [hb] at hbz
              have HN1 : Hid (gK n len z i (k + 1) = upd r i (r i ++ [k])) := HY.out hb
              obtain ⟨px, cx, ex⟩ := HV3.out.form hi1
              have d9 : wr.cell? ⟨ga, i, none⟩ = some (.slice px (r i).length cx) := by rw [← ex]; exact (HV3.out.cell hi1).1
              have hRx : RwD n V3 r (.bls i) = some (rowI (V3 i) (r i)) := if_pos hi1
              have hcy2 : (wr.alloc (.cells #[iv k] 3 (0, 0))).ownsRow (ga + 1) 3 1 (.slice px (r i).length cx) (r i).length ((r i).map iv) := by
                have h := ((HV3.out.mi.row _ _ hRx).1.owns rfl).alloc (.cells #[iv k] 3 (0, 0))
                rw [show (rowI (V3 i) (r i)).v = .slice px (r i).length cx from ex] at h
                exact h
              have hnew : ∀ j u, [iv k][j]? = some u → (wr.alloc (.cells #[iv k] 3 (0, 0))).cell? (Addr.add ⟨wr.heap.size, 0, none⟩ j) = some u := World.news_of_block (cs := #[iv k]) (t := 3) (fr := (0, 0)) (heap_alloc_new wr _)
              have hone : ∀ u ∈ [iv k], u.oneCell' = true := fun u hu => by obtain rfl := List.mem_singleton.1 hu; rfl
              have hsz5 := HV3.out.mi.sz
              clear hb
              go_wp2_with (at_builtin; refine wpList_append_lies _ rfl _ _ 26 rfl (ga + 1) 3 i0 _ 1 8 Yba.underlying26 hi hzz0 hzz1 hzz2 rfl (by omega) _ (r i).length ((r i).map iv) rfl hcy2 ⟨wr.heap.size, 0, none⟩ 1 1 [iv k] rfl rfl hnew hone (by omega) (by unfold maxLen; omega) (by omega) (by simp; omega) _ rfl ?_)
              intro g9 cap9 w9 hown9 hgr9 hat9 hlt9
              have hgr9' : wr.grownBy w9 (V3 i).ownBlock := by rw [ex]; exact grown_trans (World.grownBy_alloc _ _ _) hgr9
              obtain ⟨own9, V9, hV9⟩ := HV3.out.push i k hi1 hgr9' hown9 (by rw [ex]; exact hat9.imp (fun h => h) (fun h => by omega))
              have hst9 := HV3.out.mi.far hRx hgr9'
              have d9' : w9.cell? ⟨ga, i, none⟩ = some (.slice px (r i).length cx) := by rw [← ex]; simp [World.cell?, hst9, hi1]
              have f9' : w9.frozen? ⟨ga, i, none⟩ = false := by simp [World.frozen?, hst9]
              have HV9 : Hid (∃ own V, AD w ga n own V (upd r i (r i ++ [k])) (w9.setCell ⟨ga, i, none⟩ (.slice (some ⟨g9, 0, none⟩) ((r i).length + 1) cap9))) := ⟨own9, V9, hV9⟩
              clear hown9 hgr9 hat9 hlt9 hgr9' hst9 hV9 hcy2 hnew hone d9 hx1 HV3
              go_wp2_with fail
              go_roundg (n - (k + 1))
              case measure => rw [HGK.out]; omega
              case rel => exact ⟨k + 1, rfl, by omega, by go_num, by rw [HN1.out]; exact HV9.out⟩
          · obtain rfl : k = n := by omega
            have HV4 : Hid (AD w ga k own3 V3 (gK k len z (i + 1) 0) wr) := by show AD w ga k own3 V3 (gK k len z (i + 1) 0) wr; rw [HALL.out (by first | rfl | trivial)]; exact HV3.out
            clear HV3 hx1
            go_wp2_with fail
            go_roundg (k - (i + 1))
            case measure => rw [HGI.out]; omega
            case rel => exact ⟨i + 1, rfl, by omega, by go_num, _, _, HV4.out⟩
      · have hil' : (len : Int) ≤ (i : Int) := by omega
        have HV4 : Hid (AD w ga n own1 V1 (gK n len z (i + 1) 0) wr) := by show AD w ga n own1 V1 (gK n len z (i + 1) 0) wr; rw [← gK_skip n len z i hil]; exact HV1.out
        clear HV1 hil
        go_wp2_with fail
        go_roundg (n - (i + 1))
        case measure => rw [HGI.out]; omega
        case rel => exact ⟨i + 1, rfl, by omega, by go_num, _, _, HV4.out⟩
    · obtain rfl : i = n := by omega
      rw [gK_all] at HV1
      go_wp2_with fail
      go_ret
      refine ⟨?_, own1, V1, by rw [HGA.out]; exact HV1.out⟩
      rw [HGA.out]
      first | done | rfl
end Go.Proofs.Ybulkcyk
