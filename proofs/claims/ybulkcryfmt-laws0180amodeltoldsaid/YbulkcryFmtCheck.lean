/-
  zzs0180acheck (function 5): it returns true, a theorem a way.
-/
import Derived.Test.YbulkcryFmtNum
namespace Go.Proofs.YbulkcryFmt
open Go.RowKit Go.Extern.Stop Go.Stop Go.Extern

theorem stopN_in (P : Int → Bool) (s : ByteArray) (f : Nat) : ∀ k m, k ≤ m → m < stopN P s f k → ∃ h : m < s.size, P ((s[m]'h).toNat : Int) = true := by
  induction f with
  | zero => intro k m h1 h2; simp [stopN] at h2; omega
  | succ f ih =>
    intro k m h1 h2
    rw [stopN] at h2
    split at h2
    · rename_i hk
      split at h2
      · rename_i hp
        by_cases e : m = k
        · subst e; exact ⟨hk, hp⟩
        · exact ih (k + 1) m (by omega) h2
      · omega
    · omega
theorem stopAt_in (P : Int → Bool) (s : ByteArray) (k m : Nat) (h1 : k ≤ m) (h2 : m < stopAt P s k) : ∃ h : m < s.size, P ((s[m]'h).toNat : Int) = true := stopN_in P s _ k m h1 h2
theorem stopN_out (P : Int → Bool) (s : ByteArray) (f : Nat) : ∀ k, s.size ≤ k + f → ∀ h : stopN P s f k < s.size, P ((s[stopN P s f k]'h).toNat : Int) = false := by
  induction f with
  | zero => intro k hk h; simp [stopN] at h; omega
  | succ f ih =>
    intro k hk
    rw [stopN]
    split
    · split
      · exact ih (k + 1) (by omega)
      · intro h; rename_i hp; simpa using hp
    · intro h; omega
theorem stopAt_out (P : Int → Bool) (s : ByteArray) (k i : Nat) (hi : i = stopAt P s k) (h : i < s.size) : P ((s[i]'h).toNat : Int) = false := by
  subst hi
  exact stopN_out P s _ k (by omega) h

theorem digit6' (c : Int) (w : World) : Calls Ybaf.prog 6 #[.int .u8 c] w fun e w' => e = .returned (.bool (digB c)) ∧ w = w' := (digit6 c w).mono fun _ _ h => ⟨h.1, h.2.symm⟩
theorem word7' (c : Int) (w : World) : Calls Ybaf.prog 7 #[.int .u8 c] w fun e w' => e = .returned (.bool (wrdB c)) ∧ w = w' := (word7 c w).mono fun _ _ h => ⟨h.1, h.2.symm⟩

abbrev keepText : ByteArray := ⟨#[107, 101, 101, 112]⟩

theorem sc_new (s : ByteArray) (k : Nat) (w : World) : Sc w.heap.size s k keepText (w.alloc (.cells #[.string s, .int .i64 k, .string keepText, .bool true] 31)) (w.alloc (.cells #[.string s, .int .i64 k, .string keepText, .bool true] 31)) := by
  refine ⟨?_, rfl, rfl, rfl, rfl, fun _ _ => rfl⟩
  show (w.heap.push _)[w.heap.size]? = _
  simp

theorem ScB.c0 {b : Nat} {s : ByteArray} {k : Nat} {pr : ByteArray} {w wr : World} (h : ScB b s k pr w wr) : wr.cell? ⟨b, 0, none⟩ = some (.string s) := by simp [World.cell?, h.blk]
theorem ScB.c1 {b : Nat} {s : ByteArray} {k : Nat} {pr : ByteArray} {w wr : World} (h : ScB b s k pr w wr) : wr.cell? ⟨b, 1, none⟩ = some (.int .i64 k) := by simp [World.cell?, h.blk]
theorem ScB.c2 {b : Nat} {s : ByteArray} {k : Nat} {pr : ByteArray} {w wr : World} (h : ScB b s k pr w wr) : wr.cell? ⟨b, 2, none⟩ = some (.string pr) := by simp [World.cell?, h.blk]
theorem ScB.c3 {b : Nat} {s : ByteArray} {k : Nat} {pr : ByteArray} {w wr : World} (h : ScB b s k pr w wr) : wr.cell? ⟨b, 3, none⟩ = some (.bool true) := by simp [World.cell?, h.blk]

set_option maxHeartbeats 1600000 in
theorem check_int_end (F : Interp) (s : ByteArray) (k : Nat) (w : World) (hF : F.answers w.tape) (hs : s.size ≤ maxLen) (hk : k ≤ s.size)
    (i : Nat) (hi : i = stopAt digB s k) (hlt : i = s.size) :
    Calls Ybaf.prog 5 #[.string s, .int .i64 k] w fun e w' => e = .returned (.bool true) ∧ Below w.heap.size w w' := by
  have HI : Hid (i = stopAt digB s k) := hi
  have hki := stopAt_ge digB s k
  rw [← hi] at hki
  have hs' := hs
  unfold maxLen at hs'
  have HLT : Hid (i = s.size) := hlt
  have hle : i ≤ s.size := by omega
  clear hlt
  clear hi
  go_enter Ybaf.func5, Ybaf.ntmps5
  go_wp2
  go_loop [6] (fun v => ∃ m : Nat, k ≤ m ∧ m ≤ i ∧ v = .int .i64 m) (fun v => i - (intOf v).toNat)
  case atStart => exact ⟨k, Nat.le_refl _, hki, rfl⟩
  case round =>
    obtain ⟨m, hm1, hm2, rfl⟩ := hrel
    by_cases hmi : m < i
    · obtain ⟨hms, hdm⟩ := stopAt_in digB s k m hm1 (by rw [← HI.out]; exact hmi)
      have hms' : (m : Int) < (s.size : Int) := by omega
      go_wp2_with (go_at_call 6; refine (digit6' _ _).mono ?_; rintro e w' ⟨rfl, rfl⟩)
      go_round
      case rel => exact ⟨m + 1, by omega, by omega, by go_num⟩
      case measure => simp [intOf]; omega
    · have hme : m = i := by omega
      clear hm1 hm2 hmi
      subst hme
      have hd1 : ¬ m < s.size := by have := HLT.out; omega
      go_wp2_with (first | (go_at_call 6; refine (digit6' _ _).mono ?_; rintro e w' ⟨rfl, rfl⟩) | (go_at_call 7; refine (word7' _ _).mono ?_; rintro e w' ⟨rfl, rfl⟩) | (go_at_call 8; go_must (refine (num_int_end F _ s k keepText _ (by exact hF) hs hk (sc_new s k _) m HI.out HLT.out).mono ?_); rintro e w1 ⟨rfl, pr1, hsc, rfl⟩; have k0 := hsc.c0; have k1 := hsc.c1; have k2 := hsc.c2; try unfold dotText at k2; have k3 := hsc.c3; have HD : Hid (Below w.heap.size w w1) := ((Below.refl _ _).alloc (Nat.le_refl _) _).trans hsc.bel; clear hsc))
      go_ret
      exact ⟨rfl, HD.out⟩

set_option maxHeartbeats 1600000 in
theorem check_int_other (F : Interp) (s : ByteArray) (k : Nat) (w : World) (hF : F.answers w.tape) (hs : s.size ≤ maxLen) (hk : k ≤ s.size)
    (i : Nat) (hi : i = stopAt digB s k) (hlt : i < s.size) (hdot : (((s[i]'hlt).toNat : Int) == 46) = false) (hw : wrdB ((s[i]'hlt).toNat : Int) = false) :
    Calls Ybaf.prog 5 #[.string s, .int .i64 k] w fun e w' => e = .returned (.bool true) ∧ Below w.heap.size w w' := by
  have HI : Hid (i = stopAt digB s k) := hi
  have hki := stopAt_ge digB s k
  rw [← hi] at hki
  have hs' := hs
  unfold maxLen at hs'
  have hnd := stopAt_out digB s k i hi hlt
  have hlt' : (i : Int) < (s.size : Int) := by omega
  clear hi
  go_enter Ybaf.func5, Ybaf.ntmps5
  go_wp2
  go_loop [6] (fun v => ∃ m : Nat, k ≤ m ∧ m ≤ i ∧ v = .int .i64 m) (fun v => i - (intOf v).toNat)
  case atStart => exact ⟨k, Nat.le_refl _, hki, rfl⟩
  case round =>
    obtain ⟨m, hm1, hm2, rfl⟩ := hrel
    by_cases hmi : m < i
    · obtain ⟨hms, hdm⟩ := stopAt_in digB s k m hm1 (by rw [← HI.out]; exact hmi)
      have hms' : (m : Int) < (s.size : Int) := by omega
      go_wp2_with (go_at_call 6; refine (digit6' _ _).mono ?_; rintro e w' ⟨rfl, rfl⟩)
      go_round
      case rel => exact ⟨m + 1, by omega, by omega, by go_num⟩
      case measure => simp [intOf]; omega
    · have hme : m = i := by omega
      clear hm1 hm2 hmi
      subst hme
      go_wp2_with (first | (go_at_call 6; refine (digit6' _ _).mono ?_; rintro e w' ⟨rfl, rfl⟩) | (go_at_call 7; refine (word7' _ _).mono ?_; rintro e w' ⟨rfl, rfl⟩) | (go_at_call 8; go_must (refine (num_int_other F _ s k keepText _ (by exact hF) hs hk (sc_new s k _) m HI.out hlt hdot hw).mono ?_); rintro e w1 ⟨rfl, pr1, hsc, rfl⟩; have k0 := hsc.c0; have k1 := hsc.c1; have k2 := hsc.c2; try unfold dotText at k2; have k3 := hsc.c3; have HD : Hid (Below w.heap.size w w1) := ((Below.refl _ _).alloc (Nat.le_refl _) _).trans hsc.bel; clear hsc))
      go_ret
      exact ⟨rfl, HD.out⟩

set_option maxHeartbeats 1600000 in
theorem check_int_word (F : Interp) (s : ByteArray) (k : Nat) (w : World) (hF : F.answers w.tape) (hs : s.size ≤ maxLen) (hk : k ≤ s.size)
    (i : Nat) (hi : i = stopAt digB s k) (hlt : i < s.size) (hdot : (((s[i]'hlt).toNat : Int) == 46) = false) (hw : wrdB ((s[i]'hlt).toNat : Int) = true) :
    Calls Ybaf.prog 5 #[.string s, .int .i64 k] w fun e w' => e = .returned (.bool true) ∧ Below w.heap.size w w' := by
  have HI : Hid (i = stopAt digB s k) := hi
  have hki := stopAt_ge digB s k
  rw [← hi] at hki
  have hs' := hs
  unfold maxLen at hs'
  have hnd := stopAt_out digB s k i hi hlt
  have hlt' : (i : Int) < (s.size : Int) := by omega
  clear hi
  go_enter Ybaf.func5, Ybaf.ntmps5
  go_wp2
  go_loop [6] (fun v => ∃ m : Nat, k ≤ m ∧ m ≤ i ∧ v = .int .i64 m) (fun v => i - (intOf v).toNat)
  case atStart => exact ⟨k, Nat.le_refl _, hki, rfl⟩
  case round =>
    obtain ⟨m, hm1, hm2, rfl⟩ := hrel
    by_cases hmi : m < i
    · obtain ⟨hms, hdm⟩ := stopAt_in digB s k m hm1 (by rw [← HI.out]; exact hmi)
      have hms' : (m : Int) < (s.size : Int) := by omega
      go_wp2_with (go_at_call 6; refine (digit6' _ _).mono ?_; rintro e w' ⟨rfl, rfl⟩)
      go_round
      case rel => exact ⟨m + 1, by omega, by omega, by go_num⟩
      case measure => simp [intOf]; omega
    · have hme : m = i := by omega
      clear hm1 hm2 hmi
      subst hme
      go_wp2_with (first | (go_at_call 6; refine (digit6' _ _).mono ?_; rintro e w' ⟨rfl, rfl⟩) | (go_at_call 7; refine (word7' _ _).mono ?_; rintro e w' ⟨rfl, rfl⟩))
      have hjg := stopAt_ge wrdB s m
      have hjl := stopAt_le wrdB s m (by omega)
      obtain ⟨j, hj⟩ : ∃ j, j = stopAt wrdB s m := ⟨_, rfl⟩
      rw [← hj] at hjg hjl
      have HJ : Hid (j = stopAt wrdB s m) := hj
      clear hj
      go_loop [6] (fun v => ∃ q : Nat, m ≤ q ∧ q ≤ j ∧ v = .int .i64 q) (fun v => j - (intOf v).toNat)
      case atStart => exact ⟨m, Nat.le_refl _, hjg, rfl⟩
      case round =>
        obtain ⟨p, hp1, hp2, rfl⟩ := hrel
        by_cases hpj : p < j
        · obtain ⟨hps, hdp⟩ := stopAt_in wrdB s m p hp1 (by rw [← HJ.out]; exact hpj)
          have hps' : (p : Int) < (s.size : Int) := by omega
          go_wp2_with (go_at_call 7; refine (word7' _ _).mono ?_; rintro e w' ⟨rfl, rfl⟩)
          go_round
          case rel => exact ⟨p + 1, by omega, by omega, by go_num⟩
          case measure => simp [intOf]; omega
        · have hpe : p = j := by omega
          clear hp1 hp2 hpj
          subst hpe
          by_cases hpl : p < s.size
          · have hpd := stopAt_out wrdB s m p HJ.out hpl
            have hps' : (p : Int) < (s.size : Int) := by omega
            go_wp2_with (first | (go_at_call 6; refine (digit6' _ _).mono ?_; rintro e w' ⟨rfl, rfl⟩) | (go_at_call 7; refine (word7' _ _).mono ?_; rintro e w' ⟨rfl, rfl⟩) | (go_at_call 8; go_must (refine (num_int_word F _ s k keepText _ (by exact hF) hs hk (sc_new s k _) m HI.out hlt hdot hw).mono ?_); rintro e w1 ⟨rfl, pr1, hsc, _⟩; rw [← HJ.out] at hsc; have k0 := hsc.c0; have k1 := hsc.c1; have k2 := hsc.c2; try unfold dotText at k2; have k3 := hsc.c3; have HD : Hid (Below w.heap.size w w1) := ((Below.refl _ _).alloc (Nat.le_refl _) _).trans hsc.bel; clear hsc))
            go_ret
            exact ⟨rfl, HD.out⟩
          · go_wp2_with (first | (go_at_call 6; refine (digit6' _ _).mono ?_; rintro e w' ⟨rfl, rfl⟩) | (go_at_call 7; refine (word7' _ _).mono ?_; rintro e w' ⟨rfl, rfl⟩) | (go_at_call 8; go_must (refine (num_int_word F _ s k keepText _ (by exact hF) hs hk (sc_new s k _) m HI.out hlt hdot hw).mono ?_); rintro e w1 ⟨rfl, pr1, hsc, _⟩; rw [← HJ.out] at hsc; have k0 := hsc.c0; have k1 := hsc.c1; have k2 := hsc.c2; try unfold dotText at k2; have k3 := hsc.c3; have HD : Hid (Below w.heap.size w w1) := ((Below.refl _ _).alloc (Nat.le_refl _) _).trans hsc.bel; clear hsc))
            go_ret
            exact ⟨rfl, HD.out⟩

set_option maxHeartbeats 1600000 in
theorem check_dot_end (F : Interp) (s : ByteArray) (k : Nat) (w : World) (hF : F.answers w.tape) (hs : s.size ≤ maxLen) (hk : k ≤ s.size)
    (i : Nat) (hi : i = stopAt digB s k) (hlt : i < s.size) (hdot : (((s[i]'hlt).toNat : Int) == 46) = true) (i1 : Nat) (hi1 : i1 = i + 1) (hend : i1 = s.size) :
    Calls Ybaf.prog 5 #[.string s, .int .i64 k] w fun e w' => e = .returned (.bool true) ∧ Below w.heap.size w w' := by
  have HI : Hid (i = stopAt digB s k) := hi
  have hki := stopAt_ge digB s k
  rw [← hi] at hki
  have hs' := hs
  unfold maxLen at hs'
  have hnd := stopAt_out digB s k i hi hlt
  have hlt' : (i : Int) < (s.size : Int) := by omega
  have HI1 : Hid (i1 = i + 1) := hi1
  have HE : Hid (i1 = s.size) := hend
  have he2 : (s.size : Int) ≤ (i : Int) + 1 := by omega
  clear hi1 hend
  clear hi
  go_enter Ybaf.func5, Ybaf.ntmps5
  go_wp2
  go_loop [6] (fun v => ∃ m : Nat, k ≤ m ∧ m ≤ i ∧ v = .int .i64 m) (fun v => i - (intOf v).toNat)
  case atStart => exact ⟨k, Nat.le_refl _, hki, rfl⟩
  case round =>
    obtain ⟨m, hm1, hm2, rfl⟩ := hrel
    by_cases hmi : m < i
    · obtain ⟨hms, hdm⟩ := stopAt_in digB s k m hm1 (by rw [← HI.out]; exact hmi)
      have hms' : (m : Int) < (s.size : Int) := by omega
      go_wp2_with (go_at_call 6; refine (digit6' _ _).mono ?_; rintro e w' ⟨rfl, rfl⟩)
      go_round
      case rel => exact ⟨m + 1, by omega, by omega, by go_num⟩
      case measure => simp [intOf]; omega
    · have hme : m = i := by omega
      clear hm1 hm2 hmi
      subst hme
      have hk1 := HI1.out
      have ek : ((m : Int) + 1) = (i1 : Int) := by omega
      have EK : Hid (((m : Int) + 1) = (i1 : Int)) := ek
      clear ek hk1
      go_wp2_with (first | (go_at_call 6; refine (digit6' _ _).mono ?_; rintro e w' ⟨rfl, rfl⟩) | (go_at_call 7; refine (word7' _ _).mono ?_; rintro e w' ⟨rfl, rfl⟩) | (go_at_call 8; go_must (refine (num_dot_end F _ s k keepText _ (by exact hF) hs hk (sc_new s k _) m HI.out hlt hdot i1 HI1.out HE.out).mono ?_); rintro e w1 ⟨rfl, pr1, hsc, rfl⟩; have k0 := hsc.c0; have k1 := hsc.c1; have k2 := hsc.c2; try unfold dotText at k2; have k3 := hsc.c3; have HD : Hid (Below w.heap.size w w1) := ((Below.refl _ _).alloc (Nat.le_refl _) _).trans hsc.bel; clear hsc; rw [← EK.out] at k1))
      go_ret
      exact ⟨rfl, HD.out⟩

set_option maxHeartbeats 1600000 in
theorem check_dot_other (F : Interp) (s : ByteArray) (k : Nat) (w : World) (hF : F.answers w.tape) (hs : s.size ≤ maxLen) (hk : k ≤ s.size)
    (i : Nat) (hi : i = stopAt digB s k) (hlt : i < s.size) (hdot : (((s[i]'hlt).toNat : Int) == 46) = true) (i1 : Nat) (hi1 : i1 = i + 1) (hl2 : i1 < s.size) (hd : digB ((s[i1]'hl2).toNat : Int) = false) :
    Calls Ybaf.prog 5 #[.string s, .int .i64 k] w fun e w' => e = .returned (.bool true) ∧ Below w.heap.size w w' := by
  have HI : Hid (i = stopAt digB s k) := hi
  have hki := stopAt_ge digB s k
  rw [← hi] at hki
  have hs' := hs
  unfold maxLen at hs'
  have hnd := stopAt_out digB s k i hi hlt
  have hlt' : (i : Int) < (s.size : Int) := by omega
  have HI1 : Hid (i1 = i + 1) := hi1
  have hl2' : (i1 : Int) < (s.size : Int) := by omega
  clear hi1
  clear hi
  go_enter Ybaf.func5, Ybaf.ntmps5
  go_wp2
  go_loop [6] (fun v => ∃ m : Nat, k ≤ m ∧ m ≤ i ∧ v = .int .i64 m) (fun v => i - (intOf v).toNat)
  case atStart => exact ⟨k, Nat.le_refl _, hki, rfl⟩
  case round =>
    obtain ⟨m, hm1, hm2, rfl⟩ := hrel
    by_cases hmi : m < i
    · obtain ⟨hms, hdm⟩ := stopAt_in digB s k m hm1 (by rw [← HI.out]; exact hmi)
      have hms' : (m : Int) < (s.size : Int) := by omega
      go_wp2_with (go_at_call 6; refine (digit6' _ _).mono ?_; rintro e w' ⟨rfl, rfl⟩)
      go_round
      case rel => exact ⟨m + 1, by omega, by omega, by go_num⟩
      case measure => simp [intOf]; omega
    · have hme : m = i := by omega
      clear hm1 hm2 hmi
      subst hme
      have hk1 := HI1.out
      have ek : ((m : Int) + 1) = (i1 : Int) := by omega
      clear hk1
      go_wp2_with (first | (go_at_call 6; refine (digit6' _ _).mono ?_; rintro e w' ⟨rfl, rfl⟩) | (go_at_call 7; refine (word7' _ _).mono ?_; rintro e w' ⟨rfl, rfl⟩) | (go_at_call 8; go_must (refine (num_dot_other F _ s k keepText _ (by exact hF) hs hk (sc_new s k _) m HI.out hlt hdot i1 HI1.out hl2 hd).mono ?_); rintro e w1 ⟨rfl, pr1, hsc, rfl⟩; have k0 := hsc.c0; have k1 := hsc.c1; have k2 := hsc.c2; try unfold dotText at k2; have k3 := hsc.c3; have HD : Hid (Below w.heap.size w w1) := ((Below.refl _ _).alloc (Nat.le_refl _) _).trans hsc.bel; clear hsc))
      go_ret
      exact ⟨rfl, HD.out⟩

set_option maxHeartbeats 1600000 in
theorem check_float_end (F : Interp) (s : ByteArray) (k : Nat) (w : World) (hF : F.answers w.tape) (hs : s.size ≤ maxLen) (hk : k ≤ s.size)
    (i : Nat) (hi : i = stopAt digB s k) (hlt : i < s.size) (hdot : (((s[i]'hlt).toNat : Int) == 46) = true) (i1 : Nat) (hi1 : i1 = i + 1) (hl2 : i1 < s.size) (hd : digB ((s[i1]'hl2).toNat : Int) = true) (i2 : Nat) (hj2 : i2 = stopAt digB s i1) (hl3 : i2 = s.size) :
    Calls Ybaf.prog 5 #[.string s, .int .i64 k] w fun e w' => e = .returned (.bool true) ∧ Below w.heap.size w w' := by
  have HI : Hid (i = stopAt digB s k) := hi
  have hki := stopAt_ge digB s k
  rw [← hi] at hki
  have hs' := hs
  unfold maxLen at hs'
  have hnd := stopAt_out digB s k i hi hlt
  have hlt' : (i : Int) < (s.size : Int) := by omega
  have HI1 : Hid (i1 = i + 1) := hi1
  have hl2' : (i1 : Int) < (s.size : Int) := by omega
  clear hi1
  have hl2d : decide (s.size ≤ i1) = false := decide_eq_false (by omega)
  have HJ2 : Hid (i2 = stopAt digB s i1) := hj2
  have h12 := stopAt_ge digB s i1
  rw [← hj2] at h12
  have h12l := stopAt_le digB s i1 (by omega)
  rw [← hj2] at h12l
  have HL3 : Hid (i2 = s.size) := hl3
  clear hl3 hj2
  clear hi
  go_enter Ybaf.func5, Ybaf.ntmps5
  go_wp2
  go_loop [6] (fun v => ∃ m : Nat, k ≤ m ∧ m ≤ i ∧ v = .int .i64 m) (fun v => i - (intOf v).toNat)
  case atStart => exact ⟨k, Nat.le_refl _, hki, rfl⟩
  case round =>
    obtain ⟨m, hm1, hm2, rfl⟩ := hrel
    by_cases hmi : m < i
    · obtain ⟨hms, hdm⟩ := stopAt_in digB s k m hm1 (by rw [← HI.out]; exact hmi)
      have hms' : (m : Int) < (s.size : Int) := by omega
      go_wp2_with (go_at_call 6; refine (digit6' _ _).mono ?_; rintro e w' ⟨rfl, rfl⟩)
      go_round
      case rel => exact ⟨m + 1, by omega, by omega, by go_num⟩
      case measure => simp [intOf]; omega
    · have hme : m = i := by omega
      clear hm1 hm2 hmi
      subst hme
      have hk1 := HI1.out
      have ek : ((m : Int) + 1) = (i1 : Int) := by omega
      clear hk1
      go_wp2_with (first | (go_at_call 6; refine (digit6' _ _).mono ?_; rintro e w' ⟨rfl, rfl⟩) | (go_at_call 7; refine (word7' _ _).mono ?_; rintro e w' ⟨rfl, rfl⟩))
      have HDOT : Hid (((s[m].toNat : Int) == 46) = true) := hdot
      clear ek hdot
      go_loop [6] (fun v => ∃ q : Nat, i1 ≤ q ∧ q ≤ i2 ∧ v = .int .i64 q) (fun v => i2 - (intOf v).toNat)
      case atStart => exact ⟨i1, Nat.le_refl _, h12, rfl⟩
      case round =>
        obtain ⟨q, hq1, hq2, rfl⟩ := hrel
        by_cases hqi : q < i2
        · obtain ⟨hqs, hdq⟩ := stopAt_in digB s i1 q hq1 (by rw [← HJ2.out]; exact hqi)
          have hqs' : (q : Int) < (s.size : Int) := by omega
          go_wp2_with (first | (go_at_call 6; refine (digit6' _ _).mono ?_; rintro e w' ⟨rfl, rfl⟩) | (go_at_call 7; refine (word7' _ _).mono ?_; rintro e w' ⟨rfl, rfl⟩))
          go_round
          case rel => exact ⟨q + 1, by omega, by omega, by go_num⟩
          case measure => simp [intOf]; omega
        · have hqe : q = i2 := by omega
          clear hq1 hq2 hqi
          subst hqe
          have hd1 : ¬ q < s.size := by have := HL3.out; omega
          go_wp2_with (first | (go_at_call 6; refine (digit6' _ _).mono ?_; rintro e w' ⟨rfl, rfl⟩) | (go_at_call 7; refine (word7' _ _).mono ?_; rintro e w' ⟨rfl, rfl⟩) | (go_at_call 8; go_must (refine (num_float_end F _ s k keepText _ (by exact hF) hs hk (sc_new s k _) m HI.out hlt HDOT.out i1 HI1.out hl2 hd q HJ2.out HL3.out).mono ?_); rintro e w1 ⟨rfl, pr1, hsc, rfl⟩; have k0 := hsc.c0; have k1 := hsc.c1; have k2 := hsc.c2; try unfold dotText at k2; have k3 := hsc.c3; have HD : Hid (Below w.heap.size w w1) := ((Below.refl _ _).alloc (Nat.le_refl _) _).trans hsc.bel; clear hsc))
          go_ret
          exact ⟨rfl, HD.out⟩

set_option maxHeartbeats 1600000 in
theorem check_float_other (F : Interp) (s : ByteArray) (k : Nat) (w : World) (hF : F.answers w.tape) (hs : s.size ≤ maxLen) (hk : k ≤ s.size)
    (i : Nat) (hi : i = stopAt digB s k) (hlt : i < s.size) (hdot : (((s[i]'hlt).toNat : Int) == 46) = true) (i1 : Nat) (hi1 : i1 = i + 1) (hl2 : i1 < s.size) (hd : digB ((s[i1]'hl2).toNat : Int) = true) (i2 : Nat) (hj2 : i2 = stopAt digB s i1) (hl3 : i2 < s.size) (hw : wrdB ((s[i2]'hl3).toNat : Int) = false) :
    Calls Ybaf.prog 5 #[.string s, .int .i64 k] w fun e w' => e = .returned (.bool true) ∧ Below w.heap.size w w' := by
  have HI : Hid (i = stopAt digB s k) := hi
  have hki := stopAt_ge digB s k
  rw [← hi] at hki
  have hs' := hs
  unfold maxLen at hs'
  have hnd := stopAt_out digB s k i hi hlt
  have hlt' : (i : Int) < (s.size : Int) := by omega
  have HI1 : Hid (i1 = i + 1) := hi1
  have hl2' : (i1 : Int) < (s.size : Int) := by omega
  clear hi1
  have hl2d : decide (s.size ≤ i1) = false := decide_eq_false (by omega)
  have HJ2 : Hid (i2 = stopAt digB s i1) := hj2
  have h12 := stopAt_ge digB s i1
  rw [← hj2] at h12
  have h12l := stopAt_le digB s i1 (by omega)
  rw [← hj2] at h12l
  have hnd2 := stopAt_out digB s i1 i2 hj2 hl3
  have hl3' : (i2 : Int) < (s.size : Int) := by omega
  clear hj2
  clear hi
  go_enter Ybaf.func5, Ybaf.ntmps5
  go_wp2
  go_loop [6] (fun v => ∃ m : Nat, k ≤ m ∧ m ≤ i ∧ v = .int .i64 m) (fun v => i - (intOf v).toNat)
  case atStart => exact ⟨k, Nat.le_refl _, hki, rfl⟩
  case round =>
    obtain ⟨m, hm1, hm2, rfl⟩ := hrel
    by_cases hmi : m < i
    · obtain ⟨hms, hdm⟩ := stopAt_in digB s k m hm1 (by rw [← HI.out]; exact hmi)
      have hms' : (m : Int) < (s.size : Int) := by omega
      go_wp2_with (go_at_call 6; refine (digit6' _ _).mono ?_; rintro e w' ⟨rfl, rfl⟩)
      go_round
      case rel => exact ⟨m + 1, by omega, by omega, by go_num⟩
      case measure => simp [intOf]; omega
    · have hme : m = i := by omega
      clear hm1 hm2 hmi
      subst hme
      have hk1 := HI1.out
      have ek : ((m : Int) + 1) = (i1 : Int) := by omega
      clear hk1
      go_wp2_with (first | (go_at_call 6; refine (digit6' _ _).mono ?_; rintro e w' ⟨rfl, rfl⟩) | (go_at_call 7; refine (word7' _ _).mono ?_; rintro e w' ⟨rfl, rfl⟩))
      have HDOT : Hid (((s[m].toNat : Int) == 46) = true) := hdot
      clear ek hdot
      go_loop [6] (fun v => ∃ q : Nat, i1 ≤ q ∧ q ≤ i2 ∧ v = .int .i64 q) (fun v => i2 - (intOf v).toNat)
      case atStart => exact ⟨i1, Nat.le_refl _, h12, rfl⟩
      case round =>
        obtain ⟨q, hq1, hq2, rfl⟩ := hrel
        by_cases hqi : q < i2
        · obtain ⟨hqs, hdq⟩ := stopAt_in digB s i1 q hq1 (by rw [← HJ2.out]; exact hqi)
          have hqs' : (q : Int) < (s.size : Int) := by omega
          go_wp2_with (first | (go_at_call 6; refine (digit6' _ _).mono ?_; rintro e w' ⟨rfl, rfl⟩) | (go_at_call 7; refine (word7' _ _).mono ?_; rintro e w' ⟨rfl, rfl⟩))
          go_round
          case rel => exact ⟨q + 1, by omega, by omega, by go_num⟩
          case measure => simp [intOf]; omega
        · have hqe : q = i2 := by omega
          clear hq1 hq2 hqi
          subst hqe
          go_wp2_with (first | (go_at_call 6; refine (digit6' _ _).mono ?_; rintro e w' ⟨rfl, rfl⟩) | (go_at_call 7; refine (word7' _ _).mono ?_; rintro e w' ⟨rfl, rfl⟩) | (go_at_call 8; go_must (refine (num_float_other F _ s k keepText _ (by exact hF) hs hk (sc_new s k _) m HI.out hlt HDOT.out i1 HI1.out hl2 hd q HJ2.out hl3 hw).mono ?_); rintro e w1 ⟨rfl, pr1, hsc, rfl⟩; have k0 := hsc.c0; have k1 := hsc.c1; have k2 := hsc.c2; try unfold dotText at k2; have k3 := hsc.c3; have HD : Hid (Below w.heap.size w w1) := ((Below.refl _ _).alloc (Nat.le_refl _) _).trans hsc.bel; clear hsc))
          go_ret
          exact ⟨rfl, HD.out⟩

set_option maxHeartbeats 1600000 in
theorem check_float_word (F : Interp) (s : ByteArray) (k : Nat) (w : World) (hF : F.answers w.tape) (hs : s.size ≤ maxLen) (hk : k ≤ s.size)
    (i : Nat) (hi : i = stopAt digB s k) (hlt : i < s.size) (hdot : (((s[i]'hlt).toNat : Int) == 46) = true) (i1 : Nat) (hi1 : i1 = i + 1) (hl2 : i1 < s.size) (hd : digB ((s[i1]'hl2).toNat : Int) = true) (i2 : Nat) (hj2 : i2 = stopAt digB s i1) (hl3 : i2 < s.size) (hw : wrdB ((s[i2]'hl3).toNat : Int) = true) :
    Calls Ybaf.prog 5 #[.string s, .int .i64 k] w fun e w' => e = .returned (.bool true) ∧ Below w.heap.size w w' := by
  have HI : Hid (i = stopAt digB s k) := hi
  have hki := stopAt_ge digB s k
  rw [← hi] at hki
  have hs' := hs
  unfold maxLen at hs'
  have hnd := stopAt_out digB s k i hi hlt
  have hlt' : (i : Int) < (s.size : Int) := by omega
  have HI1 : Hid (i1 = i + 1) := hi1
  have hl2' : (i1 : Int) < (s.size : Int) := by omega
  clear hi1
  have hl2d : decide (s.size ≤ i1) = false := decide_eq_false (by omega)
  have HJ2 : Hid (i2 = stopAt digB s i1) := hj2
  have h12 := stopAt_ge digB s i1
  rw [← hj2] at h12
  have h12l := stopAt_le digB s i1 (by omega)
  rw [← hj2] at h12l
  have hnd2 := stopAt_out digB s i1 i2 hj2 hl3
  have hl3' : (i2 : Int) < (s.size : Int) := by omega
  clear hj2
  clear hi
  go_enter Ybaf.func5, Ybaf.ntmps5
  go_wp2
  go_loop [6] (fun v => ∃ m : Nat, k ≤ m ∧ m ≤ i ∧ v = .int .i64 m) (fun v => i - (intOf v).toNat)
  case atStart => exact ⟨k, Nat.le_refl _, hki, rfl⟩
  case round =>
    obtain ⟨m, hm1, hm2, rfl⟩ := hrel
    by_cases hmi : m < i
    · obtain ⟨hms, hdm⟩ := stopAt_in digB s k m hm1 (by rw [← HI.out]; exact hmi)
      have hms' : (m : Int) < (s.size : Int) := by omega
      go_wp2_with (go_at_call 6; refine (digit6' _ _).mono ?_; rintro e w' ⟨rfl, rfl⟩)
      go_round
      case rel => exact ⟨m + 1, by omega, by omega, by go_num⟩
      case measure => simp [intOf]; omega
    · have hme : m = i := by omega
      clear hm1 hm2 hmi
      subst hme
      have hk1 := HI1.out
      have ek : ((m : Int) + 1) = (i1 : Int) := by omega
      clear hk1
      go_wp2_with (first | (go_at_call 6; refine (digit6' _ _).mono ?_; rintro e w' ⟨rfl, rfl⟩) | (go_at_call 7; refine (word7' _ _).mono ?_; rintro e w' ⟨rfl, rfl⟩))
      have HDOT : Hid (((s[m].toNat : Int) == 46) = true) := hdot
      clear ek hdot
      go_loop [6] (fun v => ∃ q : Nat, i1 ≤ q ∧ q ≤ i2 ∧ v = .int .i64 q) (fun v => i2 - (intOf v).toNat)
      case atStart => exact ⟨i1, Nat.le_refl _, h12, rfl⟩
      case round =>
        obtain ⟨q, hq1, hq2, rfl⟩ := hrel
        by_cases hqi : q < i2
        · obtain ⟨hqs, hdq⟩ := stopAt_in digB s i1 q hq1 (by rw [← HJ2.out]; exact hqi)
          have hqs' : (q : Int) < (s.size : Int) := by omega
          go_wp2_with (first | (go_at_call 6; refine (digit6' _ _).mono ?_; rintro e w' ⟨rfl, rfl⟩) | (go_at_call 7; refine (word7' _ _).mono ?_; rintro e w' ⟨rfl, rfl⟩))
          go_round
          case rel => exact ⟨q + 1, by omega, by omega, by go_num⟩
          case measure => simp [intOf]; omega
        · have hqe : q = i2 := by omega
          clear hq1 hq2 hqi
          subst hqe
          go_wp2_with (first | (go_at_call 6; refine (digit6' _ _).mono ?_; rintro e w' ⟨rfl, rfl⟩) | (go_at_call 7; refine (word7' _ _).mono ?_; rintro e w' ⟨rfl, rfl⟩))
          have hjg := stopAt_ge wrdB s q
          have hjl := stopAt_le wrdB s q (by omega)
          obtain ⟨j, hj⟩ : ∃ j, j = stopAt wrdB s q := ⟨_, rfl⟩
          rw [← hj] at hjg hjl
          have HJ : Hid (j = stopAt wrdB s q) := hj
          clear hj
          go_loop [6] (fun v => ∃ t : Nat, q ≤ t ∧ t ≤ j ∧ v = .int .i64 t) (fun v => j - (intOf v).toNat)
          case atStart => exact ⟨q, Nat.le_refl _, hjg, rfl⟩
          case round =>
            obtain ⟨p, hp1, hp2, rfl⟩ := hrel
            by_cases hpj : p < j
            · obtain ⟨hps, hdp⟩ := stopAt_in wrdB s q p hp1 (by rw [← HJ.out]; exact hpj)
              have hps' : (p : Int) < (s.size : Int) := by omega
              go_wp2_with (go_at_call 7; refine (word7' _ _).mono ?_; rintro e w' ⟨rfl, rfl⟩)
              go_round
              case rel => exact ⟨p + 1, by omega, by omega, by go_num⟩
              case measure => simp [intOf]; omega
            · have hpe : p = j := by omega
              clear hp1 hp2 hpj
              subst hpe
              by_cases hpl : p < s.size
              · have hpd := stopAt_out wrdB s q p HJ.out hpl
                have hps' : (p : Int) < (s.size : Int) := by omega
                go_wp2_with (first | (go_at_call 6; refine (digit6' _ _).mono ?_; rintro e w' ⟨rfl, rfl⟩) | (go_at_call 7; refine (word7' _ _).mono ?_; rintro e w' ⟨rfl, rfl⟩) | (go_at_call 8; go_must (refine (num_float_word F _ s k keepText _ (by exact hF) hs hk (sc_new s k _) m HI.out hlt HDOT.out i1 HI1.out hl2 hd q HJ2.out hl3 hw).mono ?_); rintro e w1 ⟨rfl, pr1, hsc, _⟩; rw [← HJ.out] at hsc; have k0 := hsc.c0; have k1 := hsc.c1; have k2 := hsc.c2; try unfold dotText at k2; have k3 := hsc.c3; have HD : Hid (Below w.heap.size w w1) := ((Below.refl _ _).alloc (Nat.le_refl _) _).trans hsc.bel; clear hsc))
                go_ret
                exact ⟨rfl, HD.out⟩
              · go_wp2_with (first | (go_at_call 6; refine (digit6' _ _).mono ?_; rintro e w' ⟨rfl, rfl⟩) | (go_at_call 7; refine (word7' _ _).mono ?_; rintro e w' ⟨rfl, rfl⟩) | (go_at_call 8; go_must (refine (num_float_word F _ s k keepText _ (by exact hF) hs hk (sc_new s k _) m HI.out hlt HDOT.out i1 HI1.out hl2 hd q HJ2.out hl3 hw).mono ?_); rintro e w1 ⟨rfl, pr1, hsc, _⟩; rw [← HJ.out] at hsc; have k0 := hsc.c0; have k1 := hsc.c1; have k2 := hsc.c2; try unfold dotText at k2; have k3 := hsc.c3; have HD : Hid (Below w.heap.size w w1) := ((Below.refl _ _).alloc (Nat.le_refl _) _).trans hsc.bel; clear hsc))
                go_ret
                exact ⟨rfl, HD.out⟩

/-- THE CHECK RETURNS TRUE, at every string and every place in it. -/
theorem check_any (F : Interp) (s : ByteArray) (k : Nat) (w : World) (hF : F.answers w.tape) (hs : s.size ≤ maxLen) (hk : k ≤ s.size) :
    Calls Ybaf.prog 5 #[.string s, .int .i64 k] w fun e w' => e = .returned (.bool true) ∧ Below w.heap.size w w' := by
  have hle := stopAt_le digB s k hk
  by_cases hlt : stopAt digB s k < s.size
  · cases hdot : ((((s[stopAt digB s k]'hlt).toNat : Int) == 46) : Bool)
    · cases hw : wrdB ((s[stopAt digB s k]'hlt).toNat : Int)
      · exact check_int_other F s k w hF hs hk _ rfl hlt hdot hw
      · exact check_int_word F s k w hF hs hk _ rfl hlt hdot hw
    · by_cases hl2 : stopAt digB s k + 1 < s.size
      · cases hd : digB ((s[stopAt digB s k + 1]'hl2).toNat : Int)
        · exact check_dot_other F s k w hF hs hk _ rfl hlt hdot _ rfl hl2 hd
        · have hle2 := stopAt_le digB s (stopAt digB s k + 1) (by omega)
          by_cases hl3 : stopAt digB s (stopAt digB s k + 1) < s.size
          · cases hw : wrdB ((s[stopAt digB s (stopAt digB s k + 1)]'hl3).toNat : Int)
            · exact check_float_other F s k w hF hs hk _ rfl hlt hdot _ rfl hl2 hd _ rfl hl3 hw
            · exact check_float_word F s k w hF hs hk _ rfl hlt hdot _ rfl hl2 hd _ rfl hl3 hw
          · exact check_float_end F s k w hF hs hk _ rfl hlt hdot _ rfl hl2 hd _ rfl (by omega)
      · exact check_dot_end F s k w hF hs hk _ rfl hlt hdot _ rfl (by omega)
  · exact check_int_end F s k w hF hs hk _ rfl (by omega)

end Go.Proofs.YbulkcryFmt
