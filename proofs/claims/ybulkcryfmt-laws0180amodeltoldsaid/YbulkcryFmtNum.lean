/-
  (*scanner).number (function 8) by its contract, a theorem a way.
-/
import Derived.Test.YbulkcryFmtSkip
import Derived.Stop.CallBack
import Derived.Stop.IfaceNil
import Derived.BigRegion
import Derived.RegionTactic
import Derived.Laws.Pointers
namespace Go.Proofs.YbulkcryFmt
open Go.RowKit Go.Extern.Stop Go.Stop Go.Extern

/-! The closed facts on fmt.Sprintf (function 12) at the one format of this program. -/
theorem Ybaf.call12 (args : Array Value) (w : World) : (callFunc 12 args).run Ybaf.prog w = ((FmtStop.sprintf #[9, 51] #[9] args).run Ybaf.prog w).andThen fun v w' => .ok (.value v) w' :=
  run_callFunc_extern Ybaf.func12 (by kernel_rfl) (by kernel_rfl) (by kernel_rfl) (by kernel_rfl) args w
theorem Ybaf.guard (name : String) (w : World) : (FmtStop.guard name).run Ybaf.prog w = .ok () w := by kernel_rfl
theorem Ybaf.fmt0 : FmtStop.printed? ⟨#[109, 97, 108, 102, 111, 114, 109, 101, 100, 32, 110, 117, 109, 98, 101, 114, 32, 37, 113]⟩ 1 = some [(0, 113, false)] := by kernel_rfl
theorem Ybaf.fmt0r (w : World) : (FmtDoors.printed ⟨#[109, 97, 108, 102, 111, 114, 109, 101, 100, 32, 110, 117, 109, 98, 101, 114, 32, 37, 113]⟩ 1).run Ybaf.prog w = .ok [(0, 113, false)] w := by kernel_rfl
def Ybaf.shape9 : List UInt8 := [12, 6, 0, 0, 0, 0, 0, 0, 0, 115, 116, 114, 105, 110, 103]
theorem Ybaf.op9_113 (name : String) (x : ByteArray) (w : World) : (FmtStop.operand name false 113 false (.iface 9 (.string x))).run Ybaf.prog w = .ok (Ybaf.shape9, FmtStop.pack x.data.toList) w := by kernel_rfl
attribute [local go_sem] Ybaf.call12 Ybaf.guard Ybaf.fmt0 Ybaf.fmt0r Ybaf.op9_113

/-- The scanner's block b in the world wr; beside it nothing that w had has turned; there may be new blocks. -/
structure ScB (b : Nat) (s : ByteArray) (k : Nat) (pr : ByteArray) (w wr : World) : Prop where
  blk : wr.heap[b]? = some (.cells #[.string s, .int .i64 k, .string pr, .bool true] 31 (0, 0))
  bel : Below b w wr

theorem Sc.self {b : Nat} {s : ByteArray} {k : Nat} {pr : ByteArray} {w wr : World} (h : Sc b s k pr w wr) : Sc b s k pr wr wr := ⟨h.blk, rfl, rfl, rfl, rfl, fun _ _ => rfl⟩
theorem Sc.toB {b : Nat} {s : ByteArray} {k : Nat} {pr : ByteArray} {w wr : World} (h : Sc b s k pr w wr) : ScB b s k pr w wr := ⟨h.blk, h.below⟩

/-- Behind fmt's new block, its draws and the store of the text. -/
theorem ScB.fmt {b : Nat} {s : ByteArray} {k : Nat} {pr : ByteArray} {w wr : World} (h : Sc b s k pr w wr) (o : Obj) (t : ByteArray) : ScB b s k t w (((wr.setCell ⟨b, 2, none⟩ (.string t)).alloc o).drew.drew) := by
  have h2 := h.set2 t
  exact ⟨(Below.heap_alloc _ o b (lt_of_block h2.blk)).trans h2.blk, ((h2.below.alloc (Nat.le_of_lt (lt_of_block h2.blk)) o).drew).drew⟩

/-- What number says of a dot that no digit follows. -/
def dotText : ByteArray := ⟨#[102, 108, 111, 97, 116, 32, 108, 105, 116, 101, 114, 97, 108, 32, 110, 101, 101, 100, 115, 32, 97, 32, 100, 105, 103, 105, 116, 32, 97, 102, 116, 101, 114, 32, 105, 116, 115, 32, 100, 111, 116]⟩

set_option maxHeartbeats 1600000 in
/-- Digits to the end. -/
theorem num_int_end (F : Interp) (b : Nat) (s : ByteArray) (k : Nat) (pr : ByteArray) (w : World) (_hF : F.answers w.tape) (hs : s.size ≤ maxLen) (hk : k ≤ s.size) (hb : Sc b s k pr w w)
    (i : Nat) (hi : i = stopAt digB s k) (hlt : i = s.size) :
    Calls Ybaf.prog 8 #[.pointer (some ⟨b, 0, none⟩)] w fun e w' => e = .returned (.int .i64 2) ∧ ∃ pr', ScB b s i pr' w w' ∧ pr' = pr := by
  have HB : Hid (Sc b s k pr w w) := hb
  have h0 := hb.c0
  have h1 := hb.c1
  have HI : Hid (stopAt digB s k = i) := hi.symm
  have hs' := hs
  unfold maxLen at hs'
  clear hb hi
  have hlt' : decide ((i : Int) < (s.size : Int)) = false := decide_eq_false (by omega)
  have hlt2 : ¬ i < s.size := by omega
  have HLT : Hid (i = s.size) := hlt
  clear hlt
  go_enter Ybaf.func8, Ybaf.ntmps8
  go_wp2_with (go_at_call 9; refine (skip10 b s k pr _ hs hk HB.out).mono ?_; rintro e w1 ⟨rfl, hsc⟩; rw [HI.out] at hsc; have k0 := hsc.c0; have k1 := hsc.c1; have HC : Hid (Sc b s i pr w w1) := hsc; clear hsc h0 h1)
  go_quiet (fail)
  have HC2 : Hid (Sc b s i pr w (w1.drewN nq)) := HC.out.drewN _
  clear HC k0 k1
  generalize w1.drewN nq = w2 at *
  have k0 := HC2.out.c0
  have k1 := HC2.out.c1
  go_wp2
  go_quiet (fail)
  go_wp2
  go_ret
  exact ⟨rfl, _, (HC2.out.drewN _).toB, rfl⟩

set_option maxHeartbeats 1600000 in
/-- Digits, then a byte that is neither a dot nor a word's. -/
theorem num_int_other (F : Interp) (b : Nat) (s : ByteArray) (k : Nat) (pr : ByteArray) (w : World) (_hF : F.answers w.tape) (hs : s.size ≤ maxLen) (hk : k ≤ s.size) (hb : Sc b s k pr w w)
    (i : Nat) (hi : i = stopAt digB s k) (hlt : i < s.size) (hdot : (((s[i]'hlt).toNat : Int) == 46) = false) (hw : wrdB ((s[i]'hlt).toNat : Int) = false) :
    Calls Ybaf.prog 8 #[.pointer (some ⟨b, 0, none⟩)] w fun e w' => e = .returned (.int .i64 2) ∧ ∃ pr', ScB b s i pr' w w' ∧ pr' = pr := by
  have HB : Hid (Sc b s k pr w w) := hb
  have h0 := hb.c0
  have h1 := hb.c1
  have HI : Hid (stopAt digB s k = i) := hi.symm
  have hs' := hs
  unfold maxLen at hs'
  clear hb hi
  have hlt' : (i : Int) < (s.size : Int) := by omega
  go_enter Ybaf.func8, Ybaf.ntmps8
  go_wp2_with (go_at_call 9; refine (skip10 b s k pr _ hs hk HB.out).mono ?_; rintro e w1 ⟨rfl, hsc⟩; rw [HI.out] at hsc; have k0 := hsc.c0; have k1 := hsc.c1; have HC : Hid (Sc b s i pr w w1) := hsc; clear hsc h0 h1)
  go_quiet (fail)
  have HC2 : Hid (Sc b s i pr w (w1.drewN nq)) := HC.out.drewN _
  clear HC k0 k1
  generalize w1.drewN nq = w2 at *
  have k0 := HC2.out.c0
  have k1 := HC2.out.c1
  go_wp2
  go_quiet ((go_at_call 11; exact Calls.quiet_of_same (word11 _ _)))
  go_wp2
  go_ret
  exact ⟨rfl, _, (HC2.out.drewN _).toB, rfl⟩

set_option maxHeartbeats 1600000 in
/-- Digits, then a byte that is no dot but a word's. -/
theorem num_int_word (F : Interp) (b : Nat) (s : ByteArray) (k : Nat) (pr : ByteArray) (w : World) (_hF : F.answers w.tape) (hs : s.size ≤ maxLen) (hk : k ≤ s.size) (hb : Sc b s k pr w w)
    (i : Nat) (hi : i = stopAt digB s k) (hlt : i < s.size) (hdot : (((s[i]'hlt).toNat : Int) == 46) = false) (hw : wrdB ((s[i]'hlt).toNat : Int) = true) :
    Calls Ybaf.prog 8 #[.pointer (some ⟨b, 0, none⟩)] w fun e w' => e = .returned (.int .i64 1) ∧ ∃ pr', ScB b s (stopAt wrdB s i) pr' w w' ∧ True := by
  have HB : Hid (Sc b s k pr w w) := hb
  have h0 := hb.c0
  have h1 := hb.c1
  have HI : Hid (stopAt digB s k = i) := hi.symm
  have hs' := hs
  unfold maxLen at hs'
  clear hb hi
  have hlt' : (i : Int) < (s.size : Int) := by omega
  go_enter Ybaf.func8, Ybaf.ntmps8
  go_wp2_with (go_at_call 9; refine (skip10 b s k pr _ hs hk HB.out).mono ?_; rintro e w1 ⟨rfl, hsc⟩; rw [HI.out] at hsc; have k0 := hsc.c0; have k1 := hsc.c1; have HC : Hid (Sc b s i pr w w1) := hsc; clear hsc h0 h1)
  go_quiet (fail)
  have HC2 : Hid (Sc b s i pr w (w1.drewN nq)) := HC.out.drewN _
  clear HC k0 k1
  generalize w1.drewN nq = w2 at *
  have k0 := HC2.out.c0
  have k1 := HC2.out.c1
  go_wp2
  go_quiet ((go_at_call 11; exact Calls.quiet_of_same (word11 _ _)))
  have HC7 : Hid (Sc b s i pr w (w2.drewN nq)) := HC2.out.drewN _
  clear HC2 k0 k1
  generalize w2.drewN nq = w7 at *
  go_wp2_with (go_at_call 9; refine (skip11 b s i pr _ hs (by omega) HC7.out.self).mono ?_; rintro e w8 ⟨rfl, hsc⟩; have HD : Hid (Sc b s (stopAt wrdB s i) pr w w8) := HC7.out.trans hsc; clear HC7 hsc)
  have hsp := stopAt_le wrdB s i (by omega)
  have hsq := stopAt_ge wrdB s i
  have k0 := HD.out.c0
  have k1 := HD.out.c1
  have k2 := HD.out.fr 2
  have k3 := HD.out.c2
  have hF' : F.answers w8.tape := by rw [HD.out.tape]; exact _hF
  have hF2 := answers_open hF'
  have hkq := stopAt_ge digB s k
  rw [HI.out] at hkq
  clear hF' _hF hdot hw
  have hbl := lt_of_block HD.out.blk
  generalize hjj : stopAt wrdB s i = j at *
  have hkj : k ≤ j := by omega
  go_region
  go_wp2
  go_ret
  exact ⟨rfl, _, by rw [hjj]; exact ScB.fmt HD.out _ _, trivial⟩

set_option maxHeartbeats 1600000 in
/-- Digits, a dot, the end. -/
theorem num_dot_end (F : Interp) (b : Nat) (s : ByteArray) (k : Nat) (pr : ByteArray) (w : World) (_hF : F.answers w.tape) (hs : s.size ≤ maxLen) (hk : k ≤ s.size) (hb : Sc b s k pr w w)
    (i : Nat) (hi : i = stopAt digB s k) (hlt : i < s.size) (hdot : (((s[i]'hlt).toNat : Int) == 46) = true) (i1 : Nat) (hi1 : i1 = i + 1) (hend : i1 = s.size) :
    Calls Ybaf.prog 8 #[.pointer (some ⟨b, 0, none⟩)] w fun e w' => e = .returned (.int .i64 1) ∧ ∃ pr', ScB b s i1 pr' w w' ∧ pr' = dotText := by
  have HB : Hid (Sc b s k pr w w) := hb
  have h0 := hb.c0
  have h1 := hb.c1
  have HI : Hid (stopAt digB s k = i) := hi.symm
  have hs' := hs
  unfold maxLen at hs'
  clear hb hi
  have hlt' : (i : Int) < (s.size : Int) := by omega
  have he : ((i1 : Int) == (s.size : Int)) = true := by simp; omega
  have he2 : i1 = s.size := by omega
  have HE : Hid (i1 = s.size) := hend
  have HI1 : Hid (i1 = i + 1) := hi1
  clear hend hi1 he2
  go_enter Ybaf.func8, Ybaf.ntmps8
  go_wp2_with (go_at_call 9; refine (skip10 b s k pr _ hs hk HB.out).mono ?_; rintro e w1 ⟨rfl, hsc⟩; rw [HI.out] at hsc; have k0 := hsc.c0; have k1 := hsc.c1; have HC : Hid (Sc b s i pr w w1) := hsc; clear hsc h0 h1)
  go_quiet (fail)
  have HC2 : Hid (Sc b s i pr w (w1.drewN nq)) := HC.out.drewN _
  clear HC k0 k1
  generalize w1.drewN nq = w2 at *
  have k0 := HC2.out.c0
  have k1 := HC2.out.c1
  have kf := HC2.out.fr 1
  go_wp2
  have HC3 : Hid (Sc b s (i + 1) pr w (w2.setCell ⟨b, 1, none⟩ (.int .i64 ((i : Int) + 1)))) := HC2.out.set1 (i + 1)
  clear HC2 k0 k1 kf
  generalize w2.setCell ⟨b, 1, none⟩ (.int .i64 ((i : Int) + 1)) = w3 at *
  rw [← HI1.out] at HC3
  have k0 := HC3.out.c0
  have k1 := HC3.out.c1
  have kf := HC3.out.fr 2
  have k2 := HC3.out.c2
  go_quiet (fail)
  go_wp2
  go_ret
  exact ⟨rfl, _, ((HC3.out.drewN _).set2 _).toB, rfl⟩

set_option maxHeartbeats 1600000 in
/-- Digits, a dot, a byte that is no digit. -/
theorem num_dot_other (F : Interp) (b : Nat) (s : ByteArray) (k : Nat) (pr : ByteArray) (w : World) (_hF : F.answers w.tape) (hs : s.size ≤ maxLen) (hk : k ≤ s.size) (hb : Sc b s k pr w w)
    (i : Nat) (hi : i = stopAt digB s k) (hlt : i < s.size) (hdot : (((s[i]'hlt).toNat : Int) == 46) = true) (i1 : Nat) (hi1 : i1 = i + 1) (hl2 : i1 < s.size) (hd : digB ((s[i1]'hl2).toNat : Int) = false) :
    Calls Ybaf.prog 8 #[.pointer (some ⟨b, 0, none⟩)] w fun e w' => e = .returned (.int .i64 1) ∧ ∃ pr', ScB b s i1 pr' w w' ∧ pr' = dotText := by
  have HB : Hid (Sc b s k pr w w) := hb
  have h0 := hb.c0
  have h1 := hb.c1
  have HI : Hid (stopAt digB s k = i) := hi.symm
  have hs' := hs
  unfold maxLen at hs'
  clear hb hi
  have hlt' : (i : Int) < (s.size : Int) := by omega
  have hl2' : (i1 : Int) < (s.size : Int) := by omega
  have he : ((i1 : Int) == (s.size : Int)) = false := by simp; omega
  have HI1 : Hid (i1 = i + 1) := hi1
  clear hi1
  go_enter Ybaf.func8, Ybaf.ntmps8
  go_wp2_with (go_at_call 9; refine (skip10 b s k pr _ hs hk HB.out).mono ?_; rintro e w1 ⟨rfl, hsc⟩; rw [HI.out] at hsc; have k0 := hsc.c0; have k1 := hsc.c1; have HC : Hid (Sc b s i pr w w1) := hsc; clear hsc h0 h1)
  go_quiet (fail)
  have HC2 : Hid (Sc b s i pr w (w1.drewN nq)) := HC.out.drewN _
  clear HC k0 k1
  generalize w1.drewN nq = w2 at *
  have k0 := HC2.out.c0
  have k1 := HC2.out.c1
  have kf := HC2.out.fr 1
  go_wp2
  have HC3 : Hid (Sc b s (i + 1) pr w (w2.setCell ⟨b, 1, none⟩ (.int .i64 ((i : Int) + 1)))) := HC2.out.set1 (i + 1)
  clear HC2 k0 k1 kf
  generalize w2.setCell ⟨b, 1, none⟩ (.int .i64 ((i : Int) + 1)) = w3 at *
  rw [← HI1.out] at HC3
  have k0 := HC3.out.c0
  have k1 := HC3.out.c1
  have kf := HC3.out.fr 2
  have k2 := HC3.out.c2
  go_quiet ((go_at_call 10; exact Calls.quiet_of_same (digit10 _ _)))
  go_wp2
  go_ret
  exact ⟨rfl, _, ((HC3.out.drewN _).set2 _).toB, rfl⟩

set_option maxHeartbeats 1600000 in
/-- Digits, a dot, digits to the end. -/
theorem num_float_end (F : Interp) (b : Nat) (s : ByteArray) (k : Nat) (pr : ByteArray) (w : World) (_hF : F.answers w.tape) (hs : s.size ≤ maxLen) (hk : k ≤ s.size) (hb : Sc b s k pr w w)
    (i : Nat) (hi : i = stopAt digB s k) (hlt : i < s.size) (hdot : (((s[i]'hlt).toNat : Int) == 46) = true) (i1 : Nat) (hi1 : i1 = i + 1) (hl2 : i1 < s.size) (hd : digB ((s[i1]'hl2).toNat : Int) = true) (i2 : Nat) (hj : i2 = stopAt digB s i1) (hl3 : i2 = s.size) :
    Calls Ybaf.prog 8 #[.pointer (some ⟨b, 0, none⟩)] w fun e w' => e = .returned (.int .i64 3) ∧ ∃ pr', ScB b s i2 pr' w w' ∧ pr' = pr := by
  have HB : Hid (Sc b s k pr w w) := hb
  have h0 := hb.c0
  have h1 := hb.c1
  have HI : Hid (stopAt digB s k = i) := hi.symm
  have hs' := hs
  unfold maxLen at hs'
  clear hb hi
  have hlt' : (i : Int) < (s.size : Int) := by omega
  have hl2' : (i1 : Int) < (s.size : Int) := by omega
  have he : ((i1 : Int) == (s.size : Int)) = false := by simp; omega
  have HI1 : Hid (i1 = i + 1) := hi1
  clear hi1
  have hji := stopAt_ge digB s i1
  rw [← hj] at hji
  have HJ : Hid (stopAt digB s i1 = i2) := hj.symm
  clear hj
  have hl3' : decide ((i2 : Int) < (s.size : Int)) = false := decide_eq_false (by omega)
  have hl32 : ¬ i2 < s.size := by omega
  have HL3 : Hid (i2 = s.size) := hl3
  clear hl3
  go_enter Ybaf.func8, Ybaf.ntmps8
  go_wp2_with (go_at_call 9; refine (skip10 b s k pr _ hs hk HB.out).mono ?_; rintro e w1 ⟨rfl, hsc⟩; rw [HI.out] at hsc; have k0 := hsc.c0; have k1 := hsc.c1; have HC : Hid (Sc b s i pr w w1) := hsc; clear hsc h0 h1)
  go_quiet (fail)
  have HC2 : Hid (Sc b s i pr w (w1.drewN nq)) := HC.out.drewN _
  clear HC k0 k1
  generalize w1.drewN nq = w2 at *
  have k0 := HC2.out.c0
  have k1 := HC2.out.c1
  have kf := HC2.out.fr 1
  go_wp2
  have HC3 : Hid (Sc b s (i + 1) pr w (w2.setCell ⟨b, 1, none⟩ (.int .i64 ((i : Int) + 1)))) := HC2.out.set1 (i + 1)
  clear HC2 k0 k1 kf
  generalize w2.setCell ⟨b, 1, none⟩ (.int .i64 ((i : Int) + 1)) = w3 at *
  rw [← HI1.out] at HC3
  have k0 := HC3.out.c0
  have k1 := HC3.out.c1
  have kf := HC3.out.fr 2
  have k2 := HC3.out.c2
  go_quiet ((go_at_call 10; exact Calls.quiet_of_same (digit10 _ _)))
  have HC4 : Hid (Sc b s i1 pr w (w3.drewN nq)) := HC3.out.drewN _
  clear HC3 k0 k1 kf k2
  generalize w3.drewN nq = w4 at *
  go_wp2_with (go_at_call 9; refine (skip10 b s i1 pr _ hs (by omega) HC4.out.self).mono ?_; rintro e w5 ⟨rfl, hsc⟩; rw [HJ.out] at hsc; have HC5 : Hid (Sc b s i2 pr w w5) := HC4.out.trans hsc; clear HC4 hsc; have k0 := HC5.out.c0; have k1 := HC5.out.c1)
  go_quiet (fail)
  go_wp2
  go_ret
  exact ⟨rfl, _, (HC5.out.drewN _).toB, rfl⟩

set_option maxHeartbeats 1600000 in
/-- Digits, a dot, digits, then a byte that is no word's. -/
theorem num_float_other (F : Interp) (b : Nat) (s : ByteArray) (k : Nat) (pr : ByteArray) (w : World) (_hF : F.answers w.tape) (hs : s.size ≤ maxLen) (hk : k ≤ s.size) (hb : Sc b s k pr w w)
    (i : Nat) (hi : i = stopAt digB s k) (hlt : i < s.size) (hdot : (((s[i]'hlt).toNat : Int) == 46) = true) (i1 : Nat) (hi1 : i1 = i + 1) (hl2 : i1 < s.size) (hd : digB ((s[i1]'hl2).toNat : Int) = true) (i2 : Nat) (hj : i2 = stopAt digB s i1) (hl3 : i2 < s.size) (hw : wrdB ((s[i2]'hl3).toNat : Int) = false) :
    Calls Ybaf.prog 8 #[.pointer (some ⟨b, 0, none⟩)] w fun e w' => e = .returned (.int .i64 3) ∧ ∃ pr', ScB b s i2 pr' w w' ∧ pr' = pr := by
  have HB : Hid (Sc b s k pr w w) := hb
  have h0 := hb.c0
  have h1 := hb.c1
  have HI : Hid (stopAt digB s k = i) := hi.symm
  have hs' := hs
  unfold maxLen at hs'
  clear hb hi
  have hlt' : (i : Int) < (s.size : Int) := by omega
  have hl2' : (i1 : Int) < (s.size : Int) := by omega
  have he : ((i1 : Int) == (s.size : Int)) = false := by simp; omega
  have HI1 : Hid (i1 = i + 1) := hi1
  clear hi1
  have hji := stopAt_ge digB s i1
  rw [← hj] at hji
  have HJ : Hid (stopAt digB s i1 = i2) := hj.symm
  clear hj
  have hl3' : (i2 : Int) < (s.size : Int) := by omega
  go_enter Ybaf.func8, Ybaf.ntmps8
  go_wp2_with (go_at_call 9; refine (skip10 b s k pr _ hs hk HB.out).mono ?_; rintro e w1 ⟨rfl, hsc⟩; rw [HI.out] at hsc; have k0 := hsc.c0; have k1 := hsc.c1; have HC : Hid (Sc b s i pr w w1) := hsc; clear hsc h0 h1)
  go_quiet (fail)
  have HC2 : Hid (Sc b s i pr w (w1.drewN nq)) := HC.out.drewN _
  clear HC k0 k1
  generalize w1.drewN nq = w2 at *
  have k0 := HC2.out.c0
  have k1 := HC2.out.c1
  have kf := HC2.out.fr 1
  go_wp2
  have HC3 : Hid (Sc b s (i + 1) pr w (w2.setCell ⟨b, 1, none⟩ (.int .i64 ((i : Int) + 1)))) := HC2.out.set1 (i + 1)
  clear HC2 k0 k1 kf
  generalize w2.setCell ⟨b, 1, none⟩ (.int .i64 ((i : Int) + 1)) = w3 at *
  rw [← HI1.out] at HC3
  have k0 := HC3.out.c0
  have k1 := HC3.out.c1
  have kf := HC3.out.fr 2
  have k2 := HC3.out.c2
  go_quiet ((go_at_call 10; exact Calls.quiet_of_same (digit10 _ _)))
  have HC4 : Hid (Sc b s i1 pr w (w3.drewN nq)) := HC3.out.drewN _
  clear HC3 k0 k1 kf k2
  generalize w3.drewN nq = w4 at *
  go_wp2_with (go_at_call 9; refine (skip10 b s i1 pr _ hs (by omega) HC4.out.self).mono ?_; rintro e w5 ⟨rfl, hsc⟩; rw [HJ.out] at hsc; have HC5 : Hid (Sc b s i2 pr w w5) := HC4.out.trans hsc; clear HC4 hsc; have k0 := HC5.out.c0; have k1 := HC5.out.c1)
  go_quiet ((go_at_call 11; exact Calls.quiet_of_same (word11 _ _)))
  go_wp2
  go_ret
  exact ⟨rfl, _, (HC5.out.drewN _).toB, rfl⟩

set_option maxHeartbeats 1600000 in
/-- Digits, a dot, digits, then a word's byte. -/
theorem num_float_word (F : Interp) (b : Nat) (s : ByteArray) (k : Nat) (pr : ByteArray) (w : World) (_hF : F.answers w.tape) (hs : s.size ≤ maxLen) (hk : k ≤ s.size) (hb : Sc b s k pr w w)
    (i : Nat) (hi : i = stopAt digB s k) (hlt : i < s.size) (hdot : (((s[i]'hlt).toNat : Int) == 46) = true) (i1 : Nat) (hi1 : i1 = i + 1) (hl2 : i1 < s.size) (hd : digB ((s[i1]'hl2).toNat : Int) = true) (i2 : Nat) (hj : i2 = stopAt digB s i1) (hl3 : i2 < s.size) (hw : wrdB ((s[i2]'hl3).toNat : Int) = true) :
    Calls Ybaf.prog 8 #[.pointer (some ⟨b, 0, none⟩)] w fun e w' => e = .returned (.int .i64 1) ∧ ∃ pr', ScB b s (stopAt wrdB s i2) pr' w w' ∧ True := by
  have HB : Hid (Sc b s k pr w w) := hb
  have h0 := hb.c0
  have h1 := hb.c1
  have HI : Hid (stopAt digB s k = i) := hi.symm
  have hs' := hs
  unfold maxLen at hs'
  clear hb hi
  have hlt' : (i : Int) < (s.size : Int) := by omega
  have hl2' : (i1 : Int) < (s.size : Int) := by omega
  have he : ((i1 : Int) == (s.size : Int)) = false := by simp; omega
  have HI1 : Hid (i1 = i + 1) := hi1
  clear hi1
  have hji := stopAt_ge digB s i1
  rw [← hj] at hji
  have HJ : Hid (stopAt digB s i1 = i2) := hj.symm
  clear hj
  have hl3' : (i2 : Int) < (s.size : Int) := by omega
  go_enter Ybaf.func8, Ybaf.ntmps8
  go_wp2_with (go_at_call 9; refine (skip10 b s k pr _ hs hk HB.out).mono ?_; rintro e w1 ⟨rfl, hsc⟩; rw [HI.out] at hsc; have k0 := hsc.c0; have k1 := hsc.c1; have HC : Hid (Sc b s i pr w w1) := hsc; clear hsc h0 h1)
  go_quiet (fail)
  have HC2 : Hid (Sc b s i pr w (w1.drewN nq)) := HC.out.drewN _
  clear HC k0 k1
  generalize w1.drewN nq = w2 at *
  have k0 := HC2.out.c0
  have k1 := HC2.out.c1
  have kf := HC2.out.fr 1
  go_wp2
  have HC3 : Hid (Sc b s (i + 1) pr w (w2.setCell ⟨b, 1, none⟩ (.int .i64 ((i : Int) + 1)))) := HC2.out.set1 (i + 1)
  clear HC2 k0 k1 kf
  generalize w2.setCell ⟨b, 1, none⟩ (.int .i64 ((i : Int) + 1)) = w3 at *
  rw [← HI1.out] at HC3
  have k0 := HC3.out.c0
  have k1 := HC3.out.c1
  have kf := HC3.out.fr 2
  have k2 := HC3.out.c2
  go_quiet ((go_at_call 10; exact Calls.quiet_of_same (digit10 _ _)))
  have HC4 : Hid (Sc b s i1 pr w (w3.drewN nq)) := HC3.out.drewN _
  clear HC3 k0 k1 kf k2
  generalize w3.drewN nq = w4 at *
  go_wp2_with (go_at_call 9; refine (skip10 b s i1 pr _ hs (by omega) HC4.out.self).mono ?_; rintro e w5 ⟨rfl, hsc⟩; rw [HJ.out] at hsc; have HC5 : Hid (Sc b s i2 pr w w5) := HC4.out.trans hsc; clear HC4 hsc; have k0 := HC5.out.c0; have k1 := HC5.out.c1)
  go_quiet ((go_at_call 11; exact Calls.quiet_of_same (word11 _ _)))
  have HC7 : Hid (Sc b s i2 pr w (w5.drewN nq)) := HC5.out.drewN _
  clear HC5 k0 k1
  generalize w5.drewN nq = w7 at *
  go_wp2_with (go_at_call 9; refine (skip11 b s i2 pr _ hs (by omega) HC7.out.self).mono ?_; rintro e w8 ⟨rfl, hsc⟩; have HD : Hid (Sc b s (stopAt wrdB s i2) pr w w8) := HC7.out.trans hsc; clear HC7 hsc)
  have hsp := stopAt_le wrdB s i2 (by omega)
  have hsq := stopAt_ge wrdB s i2
  have k0 := HD.out.c0
  have k1 := HD.out.c1
  have k2 := HD.out.fr 2
  have k3 := HD.out.c2
  have hF' : F.answers w8.tape := by rw [HD.out.tape]; exact _hF
  have hF2 := answers_open hF'
  have hkq := stopAt_ge digB s k
  rw [HI.out] at hkq
  have hii := HI1.out
  clear hF' _hF hdot hw hd he
  have hbl := lt_of_block HD.out.blk
  generalize hjj : stopAt wrdB s i2 = j at *
  have hkj : k ≤ j := by omega
  go_region
  go_wp2
  go_ret
  exact ⟨rfl, _, by rw [hjj]; exact ScB.fmt HD.out _ _, trivial⟩
end Go.Proofs.YbulkcryFmt
