/-
  No cell of these rows narrows 'for every input' (looked for: loops, veiled, ifaces, maps, wideKeys, modest, calm, conditions, laid).
  DERIVED. THE GIVEN ROWS OF THIS SEAT. 2 by the template 'for every input the law returns true; each argument reads behind the call as it read before'; 0 by the template 'total and deterministic' (their statements: YbulkdaoTotals.lean).
  GIVEN WITH THE SEED: the statements are not yours to turn. If you find one false, say at which input.
  Laid BY PROGRAM, IN A SANDBOX (cutbox-rows.mjs): the forced cells as the released guide's own fill.sh prints them over the translation d9d1981b82a3d86b… (all of the seat's roots in one cut). By AI agents, Wed Nov 11 2026. No macro, syntax, notation, axiom, sorry.
-/
import Derived.Test.YbulkdaoChecked
import GoSem.Claim
import GoSem.ClaimJoined
import GoSem.ClaimMapViews
import Derived.JoinedTies
import Derived.KernelRfl
namespace Go.Proofs.Ybulkdao
/- THE CELL 'sum', in the pinned program and in every row, IS THE sha256 OF THE DUMP (.gsa) THAT YbulkdaoProg.lean LOADS. Nothing in Lean hashes anything: it is a label: what it is worth is what the hold of that sum in a sandbox is worth. -/
noncomputable def Yba.pinned : Pinned := { name := "ybulkdao", sum := "d9d1981b82a3d86b2703084b85439b56bf737badb1536b6bb4500bbe7ec8b732", checked := Yba.checked }
namespace Rows
def none {H : Type} : Left H := { results := [], args := [] }

/-- 'schedule.LawS0196AModel': WHATEVER THE INPUT: true; the input reads as it did. -/
def lawS0196AModelSpec : ChangeSpec := { name := "lawS0196AModel", fn := fun _ => fun
  | [d] => { results := [.lit (.bool true)], args := [d] }
  | _ => none }
def lawS0196AModelRow : OpenClaim := { program := "ybulkdao", sum := "d9d1981b82a3d86b2703084b85439b56bf737badb1536b6bb4500bbe7ec8b732", func := "example.com/serialite/serialite/internal/schedule.LawS0196AModel", spec := "lawS0196AModel", unfollowed := true, recurses := true, apart := false }
def LawS0196AModelSaid : Prop := lawS0196AModelRow.holds Yba.pinned (OpenSpec.ofChange lawS0196AModelSpec)

/-- ITS FALSE NEIGHBOUR: 'it returns false'. Refute it at one input. -/
def lawS0196AModelWrong : ChangeSpec := { name := "lawS0196AModel", fn := fun _ => fun
  | [d] => { results := [.lit (.bool false)], args := [d] }
  | _ => none }
def LawS0196AModelWrongFalsely : Prop := lawS0196AModelRow.holds Yba.pinned (OpenSpec.ofChange lawS0196AModelWrong)

/-- 'schedule.LawS0196AScan': WHATEVER THE INPUT: true; the input reads as it did. -/
def lawS0196AScanSpec : ChangeSpec := { name := "lawS0196AScan", fn := fun _ => fun
  | [d] => { results := [.lit (.bool true)], args := [d] }
  | _ => none }
def lawS0196AScanRow : OpenClaim := { program := "ybulkdao", sum := "d9d1981b82a3d86b2703084b85439b56bf737badb1536b6bb4500bbe7ec8b732", func := "example.com/serialite/serialite/internal/schedule.LawS0196AScan", spec := "lawS0196AScan", unfollowed := true, recurses := true, apart := false }
def LawS0196AScanSaid : Prop := lawS0196AScanRow.holds Yba.pinned (OpenSpec.ofChange lawS0196AScanSpec)

/-- ITS FALSE NEIGHBOUR: 'it returns false'. Refute it at one input. -/
def lawS0196AScanWrong : ChangeSpec := { name := "lawS0196AScan", fn := fun _ => fun
  | [d] => { results := [.lit (.bool false)], args := [d] }
  | _ => none }
def LawS0196AScanWrongFalsely : Prop := lawS0196AScanRow.holds Yba.pinned (OpenSpec.ofChange lawS0196AScanWrong)

end Rows
end Go.Proofs.Ybulkdao
