/-
  LawS0190CModel (function 7), walked.
-/
import Derived.Test.YbulkcxiSuffix
namespace Go.Proofs.Ybulkcxi
open Go.RowKit Lev

set_option maxRecDepth 10000 in
set_option maxHeartbeats 1600000 in
theorem model_any (a b : ByteArray) (w : World) (ha : a.size ≤ maxLen) (hb : b.size ≤ maxLen) :
    Calls Yba.prog 7 #[.string a, .string b] w fun e w' => e = .returned (.bool true) ∧ Below w.heap.size w w' := by
  unfold maxLen at ha hb
  by_cases h1 : 1024 < a.size
  · have h1' : (1024 : Int) < (a.size : Int) := by omega
    go_enter Yba.func7, Yba.ntmps7
    go_wp2
    go_ret
    exact ⟨rfl, Below.refl _ _⟩
  by_cases h2 : 1024 < b.size
  · have h1' : (a.size : Int) ≤ 1024 := by omega
    have h2' : (1024 : Int) < (b.size : Int) := by omega
    go_enter Yba.func7, Yba.ntmps7
    go_wp2
    go_ret
    exact ⟨rfl, Below.refl _ _⟩
  have ha' : a.size ≤ 1024 := by omega
  have hb' : b.size ≤ 1024 := by omega
  clear h1 h2 ha hb
  go_enter Yba.func7, Yba.ntmps7
  go_wp2_with fail
  refine (edit18 a b _ ha' hb').mono ?_
  rintro e w1 ⟨rfl, hb1⟩
  have HB1 : Hid (Below w.heap.size w w1) := hb1
  clear hb1
  generalize hd : L a.data.toList b.data.toList = d at *
  have HD : Hid (L a.data.toList b.data.toList = d) := hd
  clear hd
  go_wp2_with fail
  refine (suffix19 a b _ ha' hb').mono ?_
  rintro e w2 ⟨rfl, hb2⟩
  rw [HD.out]
  have HB2 : Hid (Below w.heap.size w w2) := HB1.out.trans (hb2.mono HB1.out.size)
  clear hb2 HB1
  go_wp2
  go_ret
  exact ⟨rfl, HB2.out⟩

end Go.Proofs.Ybulkcxi
