/-
  script.Keys (function 15), walked: the keys that the steps name, each once, in order.
-/
import Derived.Test.YbulkdaoScanSpec
import Derived.Test.YbulkdaoIter
import Derived.Maps.OwnSet
namespace Go.Proofs.Ybulkdao
open Go.RowKit Go.Maps Go.Sort Go.Shelf

theorem named_iff (S : Nat → Stp) (m : Nat) (k : ByteArray) : namedB S m k = true ↔ ∃ i, i < m ∧ (S i).ky = k := by
  induction m with
  | zero => simp [namedB]
  | succ m ih =>
    unfold namedB
    rw [Bool.or_eq_true, ih, beqS]
    constructor
    · rintro (⟨i, h1, h2⟩ | h)
      · exact ⟨i, by omega, h2⟩
      · exact ⟨m, by omega, h⟩
    · rintro ⟨i, h1, h2⟩
      by_cases e : i = m
      · subst e; exact .inr h2
      · exact .inl ⟨i, by omega, h2⟩
theorem ba_eq {x : List UInt8} {k : ByteArray} : k = ⟨x.toArray⟩ ↔ k.data.toList = x := by
  constructor
  · rintro rfl; rfl
  · rintro rfl; rfl
theorem key3_nodup : (key3.map fun k => k.data.toList).Nodup := by decide
theorem key3_sorted : (key3.map fun k => k.data.toList).Pairwise (fun a b => decide (a ≤ b) = true) := by decide

/-- The sorted keys of the map. -/
theorem keys_sorted {S : Nat → Stp} {n : Nat} (hs : ∀ i, Scs (S i)) {D : DataW Unit} {w : World} {b nn : Nat} (hown : w.ownsMap Yba.prog 9 (plainElem Yba.prog 4) b nn D)
    (hD : ∀ x, has D (.string x) = (namedB S n ⟨x.toArray⟩ && !x.isEmpty)) {ss : List (List UInt8)} (hp : ss.Perm (strKeys D)) :
    (ss.mergeSort (fun x y => decide (x ≤ y))).map encStr = (keysL S n).map Value.string ∧ ss.length = (keysL S n).length := by
  obtain ⟨es, rfl, hk⟩ := hown.keysOf
  obtain ⟨es', e', hpw⟩ := hown.tidy (string_keyed Yba.underlying9)
  cases e'
  have hsub : ((keysL S n).map fun k => k.data.toList).Sublist (key3.map fun k => k.data.toList) := List.Sublist.map _ (List.filter_sublist)
  have hkk : ((keysL S n).map fun k => k.data.toList).Perm (strKeys (.map es)) := by
    refine perm_strKeys hpw (fun p hp' => ?_) (key3_nodup.sublist hsub) (fun x => ?_)
    · obtain ⟨key, hkey⟩ := hk p hp'
      obtain ⟨x, _, h2, _⟩ := Maps.keyOf_str Yba.underlying9 hkey
      exact ⟨x, h2⟩
    · rw [hD x, Bool.and_eq_true, List.mem_map]
      constructor
      · rintro ⟨k, hk', rfl⟩
        obtain ⟨h1, h2⟩ := List.mem_filter.1 hk'
        refine ⟨h2, ?_⟩
        simp only [key3, List.mem_cons, List.not_mem_nil, or_false] at h1
        rcases h1 with rfl | rfl | rfl <;> rfl
      · rintro ⟨h1, h2⟩
        refine ⟨⟨x.toArray⟩, List.mem_filter.2 ⟨?_, h1⟩, rfl⟩
        obtain ⟨i, _, h4⟩ := (named_iff S n _).1 h1
        rcases (hs i).ky with q | q
        · rw [q] at h4
          have := ba_eq.1 h4
          subst this
          exact absurd h2 (by decide)
        · rw [← h4]; exact q
  have e1 := mergeSort_of_perm (hp.trans hkk.symm)
  have e2 : ((keysL S n).map fun k => k.data.toList).mergeSort leB = (keysL S n).map fun k => k.data.toList := List.mergeSort_of_pairwise (key3_sorted.sublist hsub)
  refine ⟨?_, ?_⟩
  · show (ss.mergeSort leB).map encStr = _
    rw [e1, e2, List.map_map]
    rfl
  · rw [(hp.trans hkk.symm).length_eq, List.length_map]

theorem own_base {W : World} {base base' : Nat} {e : TypeId} {size : Nat} {v : Value} {k : Nat} {xs : List Value} (h : W.ownsRow base e size v k xs) (hb : base' ≤ base) : W.ownsRow base' e size v k xs :=
  ⟨h.1, h.2.imp id fun ⟨g, cap, cur, h1, h2, h3⟩ => ⟨g, cap, cur, h1, Nat.le_trans hb h2, h3⟩⟩
theorem keys19 (mb : Option Nat) (W : World) : Calls Yba.prog 19 #[.map mb] W fun e w' => e = .returned (.func (.func 24) #[] #[.pointer (some ⟨W.heap.size, 0, none⟩)]) ∧ w' = W.alloc (.cells #[.map mb] 54) := callsIn_wide.1 (Yba.maps_Keys_19 mb W)
theorem sorted18 (b nn : Nat) (D0 : DataW Unit) (w : World) (hown : w.ownsMap Yba.prog 9 (plainElem Yba.prog 4) b nn D0) (hmax : Maps.size D0 ≤ maxLen) (hbytes : Maps.size D0 * 16 ≤ 140737488355328) :
    Calls Yba.prog 18 #[.func (.func 24) #[] #[.pointer (some ⟨w.heap.size, 0, none⟩)]] (w.alloc (.cells #[.map (some b)] 54)) fun e w' => ∃ (v : Value) (ss : List (List UInt8)), e = .returned v ∧ ss.Perm (strKeys D0) ∧
      w'.ownsRow (w.alloc (.cells #[.map (some b)] 54)).heap.size 9 1 v ss.length ((ss.mergeSort (fun x y => decide (x ≤ y))).map encStr) ∧ (v = .slice none 0 0 ↔ ss = []) ∧ Below (w.alloc (.cells #[.map (some b)] 54)).heap.size (w.alloc (.cells #[.map (some b)] 54)) w' := callsIn_wide.1 (Yba.slices_Sorted_keys_18_19 b nn D0 _ w hown hmax hbytes)

set_option maxRecDepth 10000 in
set_option maxHeartbeats 1600000 in
theorem keys15 (g n cap : Nat) (S : Nat → Stp) (w : World) (hn : n ≤ 1024) (hst : StRow g n S w) (hg : g < w.heap.size) (hs : ∀ i, Scs (S i)) :
    Calls Yba.prog 15 #[.slice (some ⟨g, 0, none⟩) n cap] w fun e w' => ∃ v, e = .returned v ∧ w'.ownsRow w.heap.size 9 1 v (keysL S n).length ((keysL S n).map Value.string) ∧ Below w.heap.size w w' := by
  have HST : Hid (StRow g n S w) := hst
  have HS : Hid (∀ i, Scs (S i)) := hs
  clear hst hs
  have hmm := @run_makeMap Yba.prog
  go_enter Yba.func15, Yba.ntmps15
  go_wp2_with fail
  go_loopg [9] n (fun gn iv wr => ∃ (m : Nat) (D : DataW Unit), gn = n - m ∧ m ≤ n ∧ iv = .int .i64 m ∧ wr.ownsMap Yba.prog 9 (plainElem Yba.prog 4) w.heap.size m D ∧ (∀ x, has D (.string x) = namedB S m ⟨x.toArray⟩) ∧ Below w.heap.size w wr)
  case atStart => exact ⟨0, _, rfl, Nat.zero_le _, rfl, World.ownsMap_made w _ _ _, fun x => rfl, (Below.refl _ _).alloc (Nat.le_refl _) _⟩
  case round =>
    obtain ⟨m, D, hgm, hm, rfl, hown, hD, hbel⟩ := hrel
    have HGM : Hid (gk = n - m) := hgm
    have HOWN : Hid (wr.ownsMap Yba.prog 9 (plainElem Yba.prog 4) w.heap.size m D) := hown
    have HD : Hid (∀ x, has D (.string x) = namedB S m ⟨x.toArray⟩) := hD
    have HB : Hid (Below w.heap.size w wr) := hbel
    clear hgm hown hD hbel hmm
    by_cases hlt : m < n
    · have hlt' : (m : Int) < (n : Int) := by omega
      have hrw : StRow g n S wr := HST.out.below HB.out hg
      have k0 := hrw.cell m hlt 0 (by omega)
      have k1 := hrw.cell m hlt 1 (by omega)
      have k2 := hrw.cell m hlt 2 (by omega)
      have k3 := hrw.cell m hlt 3 (by omega)
      have k4 := hrw.cell m hlt 4 (by omega)
      have k5 := hrw.cell m hlt 5 (by omega)
      have k6 := hrw.cell m hlt 6 (by omega)
      have k7 := hrw.cell m hlt 7 (by omega)
      have k8 := hrw.cell m hlt 8 (by omega)
      simp only [stCell, Nat.add_zero] at k0 k1 k2 k3 k4 k5 k6 k7 k8
      clear hrw
      go_upto_region 5 with fail
      change Code.wp _ _ _ _ (wr.alloc (stepObj (S m)))
      have HS1 : Hid (StepAt wr.heap.size (S m) (wr.alloc (stepObj (S m)))) := StepAt.new _ _
      have HB2 : Hid (Below w.heap.size w (wr.alloc (stepObj (S m)))) := HB.out.alloc HB.out.size _
      have HO2 : Hid ((wr.alloc (stepObj (S m))).ownsMap Yba.prog 9 (plainElem Yba.prog 4) w.heap.size m D) := HOWN.out.alloc _
      clear k0 k1 k2 k3 k4 k5 k6 k7 k8 HB HOWN
      generalize wr.alloc (stepObj (S m)) = w2 at *
      generalize wr.heap.size = bs at *
      have c2 := HS1.out.c2
      have hsz : (S m).ky.size ≤ maxLen := by
        unfold maxLen
        rcases (HS.out m).ky with q | q
        · rw [q]; decide
        · simp only [key3, List.mem_cons, List.not_mem_nil, or_false] at q
          rcases q with q | q | q <;> rw [q] <;> decide
      obtain ⟨w3, hup, hown3, htur⟩ := HO2.out.store (string_keyed Yba.underlying9) Yba.underlying54 (by unfold maxLen; omega) (WideMaps.keyOf_string_mk Yba.underlying9 hsz) (plainElem_bool Yba.underlying4 true)
      have HOWN3 : Hid _ := hown3
      have HB3 : Hid (Below w.heap.size w w3) := HB2.out.grown htur.grown HB2.out.size (fun k hk => by cases hk; exact Nat.le_refl _)
      clear hown3 htur
      go_wp2_with fail
      go_roundg (n - (m + 1))
      case measure => rw [HGM.out]; omega
      case rel =>
        refine ⟨m + 1, _, rfl, by omega, by go_num, HOWN3.out, fun x => ?_, HB3.out⟩
        unfold namedB
        by_cases e : (S m).ky.data.toList = x
        · subst e
          rw [has_put_same HO2.out.isMap (show WideAt.IsKeyLit (.string (S m).ky.data.toList) from trivial)]
          have : ((S m).ky == ⟨(S m).ky.data.toList.toArray⟩) = true := beqS.2 rfl
          rw [this, Bool.or_true]
        · rw [has_put_other (fun h => e (by cases h; rfl)), HD.out x]
          have : ((S m).ky == ⟨x.toArray⟩) = false := by
            rw [beqS_false]
            exact fun h => e (ba_eq.1 h)
          rw [this, Bool.or_false]
    · obtain rfl : m = n := by omega
      obtain ⟨w2, hdl, hown2, htur⟩ := HOWN.out.drop (string_keyed Yba.underlying9) Yba.underlying54 (WideMaps.keyOf_string_mk (s := ⟨#[]⟩) Yba.underlying9 (by decide)) 0
      have HOWN2 : Hid (w2.ownsMap Yba.prog 9 (plainElem Yba.prog 4) w.heap.size m (D.del (.string []))) := hown2
      have HB2 : Hid (Below w.heap.size w w2) := HB.out.grown htur.grown HB.out.size (fun k hk => by cases hk; exact Nat.le_refl _)
      have HD2 : Hid (∀ x, has (D.del (.string [])) (.string x) = (namedB S m ⟨x.toArray⟩ && !x.isEmpty)) := fun x => by
        by_cases e : x = []
        · subst e
          rw [has_del_same]
          simp
        · rw [has_del_other (fun h => e (by cases h; rfl)), HD.out x]
          cases x with
          | nil => exact absurd rfl e
          | cons a r => simp
      clear hown2 htur
      go_wp2_with fail
      refine (keys19 _ _).mono ?_
      rintro e w3 ⟨rfl, rfl⟩
      go_wp2_with fail
      have hszD := HOWN2.out.size_le
      refine (sorted18 w.heap.size m _ w2 HOWN2.out (by unfold maxLen; omega) (by omega)).mono ?_
      rintro e w3 ⟨v, ss, rfl, hp, hrow, _, hb3⟩
      have HR : Hid (w3.ownsRow w.heap.size 9 1 v (keysL S m).length ((keysL S m).map Value.string)) := by
        obtain ⟨e1, e2⟩ := keys_sorted HS.out HOWN2.out HD2.out hp
        rw [e1, e2] at hrow
        exact own_base hrow (by have := HB2.out.size; simp; omega)
      have HB3 : Hid (Below w.heap.size w w3) := (HB2.out.alloc HB2.out.size _).trans (hb3.mono (by have := HB2.out.size; simp; omega))
      clear hrow hb3 hp hszD
      go_wp2_with fail
      go_ret
      exact ⟨v, rfl, HR.out, HB3.out⟩

end Go.Proofs.Ybulkdao
