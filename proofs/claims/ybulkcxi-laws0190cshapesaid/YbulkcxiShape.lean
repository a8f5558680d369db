/-
  LawS0190CShape (function 8), walked.
-/
import Derived.Test.YbulkcxiEdit
namespace Go.Proofs.Ybulkcxi
open Go.RowKit Lev

theorem edit_val (a b : ByteArray) (d : Nat) (hd : L a.data.toList b.data.toList = d) (w : World) (ha : a.size ≤ 1024) (hb : b.size ≤ 1024) :
    Calls Yba.prog 18 #[.string a, .string b] w fun e w' => e = .returned (.int .i64 (d : Int)) ∧ Below w.heap.size w w' :=
  (edit18 a b w ha hb).mono fun e w' h => ⟨by rw [h.1, hd], h.2⟩

set_option maxRecDepth 10000 in
set_option maxHeartbeats 1600000 in
theorem shape_any (a b : ByteArray) (w : World) (ha : a.size ≤ maxLen) (hb : b.size ≤ maxLen) :
    Calls Yba.prog 8 #[.string a, .string b] w fun e w' => e = .returned (.bool true) ∧ Below w.heap.size w w' := by
  unfold maxLen at ha hb
  by_cases h1 : 1024 < a.size
  · have h1' : (1024 : Int) < (a.size : Int) := by omega
    go_enter Yba.func8, Yba.ntmps8
    go_wp2
    go_ret
    exact ⟨rfl, Below.refl _ _⟩
  by_cases h2 : 1024 < b.size
  · have h1' : (a.size : Int) ≤ 1024 := by omega
    have h2' : (1024 : Int) < (b.size : Int) := by omega
    go_enter Yba.func8, Yba.ntmps8
    go_wp2
    go_ret
    exact ⟨rfl, Below.refl _ _⟩
  have ha' : a.size ≤ 1024 := by omega
  have hb' : b.size ≤ 1024 := by omega
  clear h1 h2 ha hb
  obtain ⟨d, hd⟩ : ∃ d, d = L a.data.toList b.data.toList := ⟨_, rfl⟩
  have hd2 : L b.data.toList a.data.toList = d := by rw [hd, L_sym]
  have hmax := L_max a.data.toList b.data.toList
  have hmin := L_min a.data.toList b.data.toList
  have hmin2 := L_min b.data.toList a.data.toList
  rw [bytes_len, bytes_len] at hmax hmin hmin2
  rw [hd2] at hmin2
  rw [← hd] at hmax hmin
  have hzero := L_zero a.data.toList b.data.toList
  rw [← hd] at hzero
  have hE1 : L a.data.toList (⟨#[]⟩ : ByteArray).data.toList = a.size := by rw [← bytes_len]; exact L_nil' _
  have hE2 : L (⟨#[]⟩ : ByteArray).data.toList b.data.toList = b.size := by rw [← bytes_len]; exact L_nil _
  have HD : Hid (L a.data.toList b.data.toList = d ∧ L b.data.toList a.data.toList = d) := ⟨hd.symm, hd2⟩
  have HE1 : Hid (L a.data.toList (⟨#[]⟩ : ByteArray).data.toList = a.size) := hE1
  have HE2 : Hid (L (⟨#[]⟩ : ByteArray).data.toList b.data.toList = b.size) := hE2
  clear hd hd2 hE1 hE2
  go_enter Yba.func8, Yba.ntmps8
  go_wp2_with fail
  refine (edit_val a b d HD.out.1 _ ha' hb').mono ?_
  rintro e w1 ⟨rfl, hb1⟩
  have HB1 : Hid (Below w.heap.size w w1) := hb1
  clear hb1
  go_wp2_with fail
  refine (edit_val b a d HD.out.2 _ hb' ha').mono ?_
  rintro e w2 ⟨rfl, hb2⟩
  have HB2 : Hid (Below w.heap.size w w2) := HB1.out.trans (hb2.mono HB1.out.size)
  clear hb2 HB1
  by_cases hab : a = b
  · subst hab
    have hd0 : d = 0 := by rw [← HD.out.1]; exact L_self _
    subst hd0
    clear hzero
    go_wp2_with fail
    all_goals
      refine (edit_val a ⟨#[]⟩ a.size HE1.out _ ha' (by simp [ByteArray.size])).mono ?_
      rintro e w3 ⟨rfl, hb3⟩
      have HB3 : Hid (Below w.heap.size w w3) := HB2.out.trans (hb3.mono HB2.out.size)
      clear hb3
      go_wp2_with fail
      refine (edit_val ⟨#[]⟩ a a.size HE2.out _ (by simp [ByteArray.size]) ha').mono ?_
      rintro e w4 ⟨rfl, hb4⟩
      have HB4 : Hid (Below w.heap.size w w4) := HB3.out.trans (hb4.mono HB3.out.size)
      clear hb4
      go_wp2
      go_ret
      exact ⟨rfl, HB4.out⟩
  · have hd0 : 0 < d := by
      rcases Nat.eq_zero_or_pos d with h | h
      · exact absurd (ByteArray.ext (Array.toList_inj.1 (hzero h))) hab
      · exact h
    have hdz : ((d : Int) == 0) = false := by simp; omega
    have hqq : (a.toList == b.toList) = false := by
      rw [beq_eq_false_iff_ne]
      intro h
      rw [ByteArray.toList_eq, ByteArray.toList_eq] at h
      exact hab (ByteArray.ext (Array.toList_inj.1 h))
    clear hzero hab
    go_wp2_with fail
    all_goals
      refine (edit_val a ⟨#[]⟩ a.size HE1.out _ ha' (by simp [ByteArray.size])).mono ?_
      rintro e w3 ⟨rfl, hb3⟩
      have HB3 : Hid (Below w.heap.size w w3) := HB2.out.trans (hb3.mono HB2.out.size)
      clear hb3
      go_wp2_with fail
      refine (edit_val ⟨#[]⟩ b b.size HE2.out _ (by simp [ByteArray.size]) hb').mono ?_
      rintro e w4 ⟨rfl, hb4⟩
      have HB4 : Hid (Below w.heap.size w w4) := HB3.out.trans (hb4.mono HB3.out.size)
      clear hb4
      go_wp2
      go_ret
      exact ⟨rfl, HB4.out⟩

end Go.Proofs.Ybulkcxi
