/-
  No cell of these rows narrows 'for every input' (looked for: loops, veiled, ifaces, maps, wideKeys, modest, calm, conditions, laid).
  DERIVED. THE GIVEN ROWS OF THIS SEAT. 2 by the template 'for every input the law returns true; each argument reads behind the call as it read before'; 0 by the template 'total and deterministic' (their statements: YbulkcykTotals.lean).
  GIVEN WITH THE SEED: the statements are not yours to turn. If you find one false, say at which input.
  Laid BY PROGRAM, IN A SANDBOX (cutbox-rows.mjs): the forced cells as the released guide's own fill.sh prints them over the translation 31ca972aad7f8810… (all of the seat's roots in one cut). By AI agents, Wed Nov 11 2026. No macro, syntax, notation, axiom, sorry.
-/
import Derived.Test.YbulkcykChecked
import GoSem.Claim
import GoSem.ClaimJoined
import GoSem.ClaimMapViews
import Derived.JoinedTies
import Derived.KernelRfl
namespace Go.Proofs.Ybulkcyk
/- THE CELL 'sum', in the pinned program and in every row, IS THE sha256 OF THE DUMP (.gsa) THAT YbulkcykProg.lean LOADS. Nothing in Lean hashes anything: it is a label: what it is worth is what the hold of that sum in a sandbox is worth. -/
noncomputable def Yba.pinned : Pinned := { name := "ybulkcyk", sum := "31ca972aad7f8810d40837a0457251f2354e03667fda357d24f2525cfe1cb298", checked := Yba.checked }
namespace Rows
def none {H : Type} : Left H := { results := [], args := [] }

/-- 'tracker.LawS0192CModel': WHATEVER THE INPUT: true; the input reads as it did. -/
def lawS0192CModelSpec : ChangeSpec := { name := "lawS0192CModel", fn := fun _ => fun
  | [d1, d2, d3, d4] => { results := [.lit (.bool true)], args := [d1, d2, d3, d4] }
  | _ => none }
def lawS0192CModelRow : OpenClaim := { program := "ybulkcyk", sum := "31ca972aad7f8810d40837a0457251f2354e03667fda357d24f2525cfe1cb298", func := "example.com/millwright/millwright/internal/tracker.LawS0192CModel", spec := "lawS0192CModel", unfollowed := true, recurses := true, apart := false }
def LawS0192CModelSaid : Prop := lawS0192CModelRow.holds Yba.pinned (OpenSpec.ofChange lawS0192CModelSpec)

/-- ITS FALSE NEIGHBOUR: 'it returns false'. Refute it at one input. -/
def lawS0192CModelWrong : ChangeSpec := { name := "lawS0192CModel", fn := fun _ => fun
  | [d1, d2, d3, d4] => { results := [.lit (.bool false)], args := [d1, d2, d3, d4] }
  | _ => none }
def LawS0192CModelWrongFalsely : Prop := lawS0192CModelRow.holds Yba.pinned (OpenSpec.ofChange lawS0192CModelWrong)

/-- 'tracker.LawS0192CElementary': WHATEVER THE INPUT: true; the input reads as it did. -/
def lawS0192CElementarySpec : ChangeSpec := { name := "lawS0192CElementary", fn := fun _ => fun
  | [d1, d2] => { results := [.lit (.bool true)], args := [d1, d2] }
  | _ => none }
def lawS0192CElementaryRow : OpenClaim := { program := "ybulkcyk", sum := "31ca972aad7f8810d40837a0457251f2354e03667fda357d24f2525cfe1cb298", func := "example.com/millwright/millwright/internal/tracker.LawS0192CElementary", spec := "lawS0192CElementary", unfollowed := true, recurses := true, apart := false }
def LawS0192CElementarySaid : Prop := lawS0192CElementaryRow.holds Yba.pinned (OpenSpec.ofChange lawS0192CElementarySpec)

/-- ITS FALSE NEIGHBOUR: 'it returns false'. Refute it at one input. -/
def lawS0192CElementaryWrong : ChangeSpec := { name := "lawS0192CElementary", fn := fun _ => fun
  | [d1, d2] => { results := [.lit (.bool false)], args := [d1, d2] }
  | _ => none }
def LawS0192CElementaryWrongFalsely : Prop := lawS0192CElementaryRow.holds Yba.pinned (OpenSpec.ofChange lawS0192CElementaryWrong)

end Rows
end Go.Proofs.Ybulkcyk
