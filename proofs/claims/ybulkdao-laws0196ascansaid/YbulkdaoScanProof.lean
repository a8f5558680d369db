/-
  The row of LawS0196AScan: the frame of the shells, the walk's world said by 'Below'.
-/
import Derived.Test.YbulkdaoLaw4
import Derived.Test.YbulkdaoOpen
import Derived.Test.YbulkdaoRows
import Derived.WalkKit
import Derived.ProofKit
import Derived.OpenShut
import Derived.ShutString
import Derived.ChangeOld
import Derived.Below
namespace Go.Proofs.Ybulkdao.lawS0196AScan
open Go.ChangeShapes Go.WideShapes Go.ChangeAt Go.RowKit
set_option linter.unusedVariables false

theorem own : ownKnob Yba.prog.godebug = none := by kernel_rfl
theorem laidOut : laidOutB Yba.prog = true := by kernel_rfl

/-- Whatever came in: true. -/
theorem any (p : Option Addr) (g o : Nat) (sp : Option Nat) (n cap : Nat) (O : Nat → Nat → Int) (w : World) (hp : 0 < n → p = some ⟨g, o, sp⟩ ∧ g < w.heap.size) (ho : OpRow g o sp n O w) (hr : ∀ i, i < n → ∀ j, j < 3 → 0 ≤ O i j ∧ O i j ≤ 255) :
    Calls Yba.prog 4 #[.slice p n cap] w fun e w' => e = .returned (.bool true) ∧ Below w.heap.size w w' := by
  by_cases hn : n ≤ 1024
  · exact law4 p g o sp n cap O w hp ho hr hn
  · exact law4_big p n cap w (by omega)

set_option maxRecDepth 100000 in
theorem lifted (os : Os) (started : os.Started) (H : Type) (enc : TypeId × Value → H) :
    ReturnsInHanded {} Yba.checked os 4 .any (Rows.lawS0196AScanSpec.pre6 enc Yba.prog Yba.f4 Rows.lawS0196AScanRow.domain false) (Rows.lawS0196AScanSpec.post enc Yba.prog Yba.f4 false true false false) := by
  refine returnsInHanded_of_change (C := Yba.checked) own started (by kernel_rfl) Yba.func4
    (ChangeSpec.witness6 (enc := enc) (C := Yba.checked) false ⟨#[], #[.slice none 0 0], []⟩ 8 (by kernel_rfl) (by kernel_rfl) (by kernel_rfl) (by kernel_rfl)) ?_
  intro W base args ds gs before hval0 hW hcnd _
  have hval : ∀ (j : Nat) t v, Yba.f4.params[j]? = some t → args[j]? = some v → Value.okWide Yba.prog W .any base t v := hval0
  have hW' := hW
  obtain ⟨p, q, hA0, hV, rfl, hfz, hnd⟩ := hW
  have hA : DataW.TrodAll enc Yba.prog W 0 (fun _ => true) true Yba.f4.params.toList args.toList ds p := hA0
  rw [Yba.params4] at hA hval
  obtain ⟨v0, vs0, d0, ds0, p0, q0, hargs, rfl, rfl, h0, r0⟩ := trodAll_cons hA
  obtain ⟨rfl, rfl, rfl⟩ := trodAll_nil r0
  obtain rfl : args = #[v0] := by cases args; simp_all
  obtain ⟨rfl, rfl⟩ := trodVars_none hV
  obtain ⟨a0, len0, cap0, rfl⟩ := okWide_slice Yba.underlying22 (hval 0 22 v0 rfl rfl)
  have k0 := h0
  have lt0 : ∀ x ∈ p0, x.block < W.heap.size := by obtain ⟨m, hm⟩ := k0; exact DataW.trod_lt m _ _ _ hm
  obtain ⟨g, o, sp, O, w1, w2, w3⟩ : ∃ (g o : Nat) (sp : Option Nat) (O : Nat → Nat → Int), (0 < len0 → a0 = some ⟨g, o, sp⟩ ∧ g < W.heap.size) ∧ OpRow g o sp len0 O W ∧ ∀ i, i < len0 → ∀ j, j < 3 → 0 ≤ O i j ∧ O i j ≤ 255 := by
    obtain ⟨fuel, hf⟩ := h0
    exact ops_open hf
  clear hA0 hval0
  refine (any a0 g o sp len0 cap0 O W w1 w2 w3).mono fun e W' ⟨he, bel⟩ => ?_
  subst he
  exact ⟨_, rfl, _, _, _, [], _, [], hW', trodAll_mk1 (shut_bool Yba.underlying4 _), (trodAll_cons_mk (Below.trod laidOut (by kernel_rfl) (of_decide_eq_true (by kernel_rfl)) k0 bel lt0) trodAll_mk0), rfl, bel.frame _, fun h => by cases h⟩

theorem over : Rows.lawS0196AScanRow.holds Yba.pinned (OpenSpec.ofChange Rows.lawS0196AScanSpec) :=
  OpenClaim.holds_of_wide 4 Yba.f4 rfl rfl rfl rfl rfl rfl rfl ⟨rfl, rfl, rfl, rfl, rfl⟩ rfl rfl rfl rfl rfl (by kernel_rfl) Yba.func4 (by kernel_rfl)
    (of_decide_eq_true (by kernel_rfl)) (by unfold Func.isWrapper; first | (rw [if_pos (by decide +kernel)]; kernel_rfl) | (rw [if_neg (by decide +kernel)]; exact ⟨rfl, rfl⟩))
    (fun os started H enc _ => lifted os started H enc)

end Go.Proofs.Ybulkdao.lawS0196AScan
namespace Go.Proofs.Ybulkdao

/-- THE STATEMENT. -/
theorem scan_said : Rows.LawS0196AScanSaid := lawS0196AScan.over
#print axioms scan_said
end Go.Proofs.Ybulkdao
