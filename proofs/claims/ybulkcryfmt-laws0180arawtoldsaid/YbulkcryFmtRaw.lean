/-
  LawS0180ARaw (function 4), walked; the told row; the card.
-/
import Derived.Test.YbulkcryFmtCards
import Derived.Test.YbulkcryFmtCheck
import Derived.ProofKit
import Derived.Stop.JoinedAt
import Derived.Stop.Texts
import Derived.Stop.JoinedTold
import Derived.SizedLaws
import Derived.SevenToldRow
namespace Go.Proofs.YbulkcryFmt
open Go.ChangeShapes Go.WideShapes Go.ChangeAt Go.RowKit Go.Kit
open Go.ChangeMaps (open_string shut_string)
open Go.Extern.Stop Go.Stop Go.Extern

set_option maxHeartbeats 400000 in
theorem raw_any (F : Interp) (s : ByteArray) (o : Int) (w : World) (hF : F.answers w.tape) (hs : s.size ≤ maxLen) (h0 : 0 ≤ o) (h1 : o ≤ 65535) :
    Calls Ybaf.prog 4 #[.string s, .int .u16 o] w fun e w' => e = .returned (.bool true) ∧ Below w.heap.size w w' := by
  have hs' := hs
  unfold maxLen at hs'
  by_cases hl : 1024 < s.size
  · have hl' : (1024 : Int) < (s.size : Int) := by omega
    go_enter Ybaf.func4, Ybaf.ntmps4
    go_wp2
    go_ret
    exact ⟨rfl, Below.refl _ _⟩
  · have hl' : (s.size : Int) ≤ 1024 := by omega
    obtain ⟨k, hk⟩ : ∃ k : Nat, (k : Int) = o % ((s.size : Int) + 1) := ⟨(o % ((s.size : Int) + 1)).toNat, by have := Int.emod_nonneg o (show ((s.size : Int) + 1) ≠ 0 by omega); omega⟩
    have hkl : k ≤ s.size := by have := Int.emod_lt_of_pos o (show 0 < ((s.size : Int) + 1) by omega); omega
    have hz : (((s.size : Int) + 1) == 0) = false := by simp; omega
    have ht : o.tmod ((s.size : Int) + 1) = (k : Int) := by rw [hk, Int.tmod_eq_emod_of_nonneg h0]
    have he : o % ((s.size : Int) + 1) = (k : Int) := hk.symm
    clear hk hl
    go_enter Ybaf.func4, Ybaf.ntmps4
    go_wp2_with (go_at_call 5; go_must (refine (check_any F s k _ (by exact hF) hs hkl).mono ?_); rintro e w1 ⟨rfl, hb⟩)
    go_ret
    exact ⟨rfl, hb⟩

theorem Ybaf.own : ownKnob Ybaf.prog.godebug = none := by kernel_rfl
theorem Ybaf.laidOut : laidOutB Ybaf.pinned.checked.prog = true := by kernel_rfl

set_option maxRecDepth 100000 in
theorem raw_lifted (os : Os) (started : os.Started) (H : Type) (enc : TypeId × Value → H) :
    ReturnsInTold none {} Ybaf.checked os 4 .any Input.okWide ((OpenSpec.ofChange Rows.lawS0180ARawSpec).preRow enc Ybaf.prog Ybaf.f4 [] false []) (fun F => ((OpenSpec.ofChange Rows.lawS0180ARawSpec).at F).post enc Ybaf.prog Ybaf.f4 false true false false) (aloneAtReturn Ybaf.prog) nothingAlways := by
  refine returnsInTold_of_row (C := Ybaf.checked) (s := OpenSpec.ofChange Rows.lawS0180ARawSpec) (by kernel_rfl) Ybaf.own started (by kernel_rfl) Ybaf.func4
    (OpenSpec.witness_stopped (enc := enc) (C := Ybaf.checked) false ⟨#[], #[.string ⟨#[]⟩, .int .u16 1], []⟩ 8 (by kernel_rfl) (by kernel_rfl) (by kernel_rfl) (by kernel_rfl)) ?_
  intro F W base args ds gs before _ hF hval0 hW _ _ hsz _ _
  have hval : ∀ (j : Nat) t v, Ybaf.f4.params[j]? = some t → args[j]? = some v → Value.okWide Ybaf.prog W .any base t v := hval0
  have hW' := hW
  obtain ⟨p, q, hA0, hV, rfl, hfz, hnd⟩ := hW
  have hA : DataW.TrodAll enc Ybaf.prog W 0 (fun _ => true) true Ybaf.f4.params.toList args.toList ds p := hA0
  rw [Ybaf.params4] at hA hval
  obtain ⟨v0, v1, d0, d1, p0, p1, rfl, rfl, rfl, h0, h1⟩ := trodAll_two hA
  obtain ⟨rfl, rfl⟩ := trodVars_none hV
  obtain ⟨nm, rfl, rfl, rfl, wnm⟩ := open_string Ybaf.underlying9 (hval 0 9 v0 rfl rfl) h0
  obtain ⟨o, rfl, rfl, rfl, wo⟩ := open_int Ybaf.underlying25 (hval 1 25 v1 rfl rfl) h1
  clear hA0 hval0
  have ho : 0 ≤ o ∧ o ≤ 65535 := by
    have h := wo
    simp [Lit.wf] at h
    exact h
  refine (raw_any F.told nm o W hF wnm ho.1 ho.2).mono fun e W' ⟨he, hnx⟩ => ?_
  subst he
  exact ⟨_, rfl, _, _, _, [], [], [], hW', trodAll_mk1 (shut_bool Ybaf.underlying4 _), trodAll_mk2 (shut_string Ybaf.underlying9 wnm) (shut_int Ybaf.underlying25 wo), rfl, hnx.frame _, fun h => by cases h⟩

theorem Ybaf.stops : Ybaf.pinned.checked.prog.stops = ["fmt.Sprintf"] := by kernel_rfl
theorem Ybaf.stopKnobs : Ybaf.pinned.checked.prog.stopKnobs = [] := by kernel_rfl
theorem Ybaf.quiet (os : Os) : Stop.quiet Ybaf.pinned.checked.prog os := by
  intro k hk
  rw [Ybaf.stopKnobs] at hk
  cases hk

theorem raw_told : Rows.LawS0180ARawToldSaid :=
  Claim7.holds_of_told_any 4 Ybaf.f4 "fmt.Sprintf" [] [] _ _ _ (by kernel_rfl) rfl rfl rfl Ybaf.laidOut (by kernel_rfl) rfl ⟨rfl, rfl, rfl, rfl, rfl, rfl, rfl⟩ rfl rfl (by kernel_rfl) (by kernel_rfl) Ybaf.func4 (by kernel_rfl)
    (of_decide_eq_true (by kernel_rfl)) (of_decide_eq_true (by kernel_rfl)) Ybaf.stops.symm rfl Ybaf.stopKnobs.symm (by kernel_rfl)
    (by kernel_rfl) (by kernel_rfl) (by kernel_rfl) (by kernel_rfl) (by kernel_rfl) (by kernel_rfl) (by kernel_rfl) (by kernel_rfl) (by kernel_rfl) rfl (by kernel_rfl) rfl rfl
    rfl rfl
    rfl (by kernel_rfl) (by kernel_rfl) (by kernel_rfl) (by decide) (by kernel_rfl)
    (OpenClaim.moreEntering_of (by kernel_rfl) (by kernel_rfl) (by kernel_rfl) (by kernel_rfl) (by kernel_rfl) (by kernel_rfl) (by kernel_rfl) (by kernel_rfl) (by kernel_rfl) (by kernel_rfl))
    ⟨_, WideRow.started_initial, Ybaf.quiet _⟩
    (fun os started _ H enc _ => raw_lifted os started H enc)

#print axioms raw_told
end Go.Proofs.YbulkcryFmt
