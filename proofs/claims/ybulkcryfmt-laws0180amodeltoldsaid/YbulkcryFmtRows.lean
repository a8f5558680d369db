/-
  No cell of these rows narrows 'for every input' (looked for: loops, veiled, ifaces, maps, wideKeys, modest, calm, conditions, laid).
  DERIVED. THE GIVEN ROWS OF THIS SEAT. 2 by the template 'for every input the law returns true; each argument reads behind the call as it read before'; 0 by the template 'total and deterministic' (their statements: YbulkcryFmtTotals.lean).
  GIVEN WITH THE SEED: the statements are not yours to turn. If you find one false, say at which input.
  Laid BY PROGRAM, IN A SANDBOX (cutbox-rows.mjs): the forced cells as the released guide's own fill.sh prints them over the translation 8e7c951c3f8e8390… (all of the seat's roots in one cut). By AI agents, Wed Nov 11 2026. No macro, syntax, notation, axiom, sorry.
-/
import Derived.Test.YbulkcryFmtChecked
import GoSem.Claim
import GoSem.ClaimJoined
import GoSem.ClaimMapViews
import Derived.JoinedTies
import Derived.KernelRfl
namespace Go.Proofs.YbulkcryFmt
/- THE CELL 'sum', in the pinned program and in every row, IS THE sha256 OF THE DUMP (.gsa) THAT YbulkcryFmtProg.lean LOADS. Nothing in Lean hashes anything: it is a label: what it is worth is what the hold of that sum in a sandbox is worth. -/
noncomputable def Ybaf.pinned : Pinned := { name := "ybulkcryfmt", sum := "8e7c951c3f8e83908070e161e5147157ffdd8f28e71f380ae96fdb4c45c26a2d", checked := Ybaf.checked }
namespace Rows
def none {H : Type} : Left H := { results := [], args := [] }

/-- 'syntax.LawS0180AModel': WHATEVER THE INPUT: true; the input reads as it did. -/
def lawS0180AModelSpec : ChangeSpec := { name := "lawS0180AModel", fn := fun _ => fun
  | [d1, d2] => { results := [.lit (.bool true)], args := [d1, d2] }
  | _ => none }
def lawS0180AModelRow : OpenClaim := { program := "ybulkcryfmt", sum := "8e7c951c3f8e83908070e161e5147157ffdd8f28e71f380ae96fdb4c45c26a2d", func := "example.com/bramble/bramble/internal/syntax.LawS0180AModel", spec := "lawS0180AModel", stops := ["fmt.Sprintf"], inPlace := ["fmt.Sprintf"], unfollowed := true, recurses := true, apart := false }
/-- NO THEOREM (fmt's text is open here; it may be false): for the released tool's asking of the row's closed facts alone. THE STATEMENT IS 'LawS0180AModelToldSaid' (YbulkcryFmtCards.lean). -/
def LawS0180AModelFormAsk : Prop := lawS0180AModelRow.holds Ybaf.pinned (OpenSpec.ofChange lawS0180AModelSpec)

/-- ITS FALSE NEIGHBOUR: 'it returns false'. Refute it at one input. -/
def lawS0180AModelWrong : ChangeSpec := { name := "lawS0180AModel", fn := fun _ => fun
  | [d1, d2] => { results := [.lit (.bool false)], args := [d1, d2] }
  | _ => none }
def LawS0180AModelWrongFormAsk : Prop := lawS0180AModelRow.holds Ybaf.pinned (OpenSpec.ofChange lawS0180AModelWrong)

/-- 'syntax.LawS0180ARaw': WHATEVER THE INPUT: true; the input reads as it did. -/
def lawS0180ARawSpec : ChangeSpec := { name := "lawS0180ARaw", fn := fun _ => fun
  | [d1, d2] => { results := [.lit (.bool true)], args := [d1, d2] }
  | _ => none }
def lawS0180ARawRow : OpenClaim := { program := "ybulkcryfmt", sum := "8e7c951c3f8e83908070e161e5147157ffdd8f28e71f380ae96fdb4c45c26a2d", func := "example.com/bramble/bramble/internal/syntax.LawS0180ARaw", spec := "lawS0180ARaw", stops := ["fmt.Sprintf"], inPlace := ["fmt.Sprintf"], unfollowed := true, recurses := true, apart := false }
/-- NO THEOREM (fmt's text is open here; it may be false): for the released tool's asking of the row's closed facts alone. THE STATEMENT IS 'LawS0180ARawToldSaid' (YbulkcryFmtCards.lean). -/
def LawS0180ARawFormAsk : Prop := lawS0180ARawRow.holds Ybaf.pinned (OpenSpec.ofChange lawS0180ARawSpec)

/-- ITS FALSE NEIGHBOUR: 'it returns false'. Refute it at one input. -/
def lawS0180ARawWrong : ChangeSpec := { name := "lawS0180ARaw", fn := fun _ => fun
  | [d1, d2] => { results := [.lit (.bool false)], args := [d1, d2] }
  | _ => none }
def LawS0180ARawWrongFormAsk : Prop := lawS0180ARawRow.holds Ybaf.pinned (OpenSpec.ofChange lawS0180ARawWrong)

end Rows
end Go.Proofs.YbulkcryFmt
