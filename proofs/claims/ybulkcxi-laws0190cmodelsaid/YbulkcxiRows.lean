/-
  No cell of these rows narrows 'for every input' (looked for: loops, veiled, ifaces, maps, wideKeys, modest, calm, conditions, laid).
  DERIVED. THE GIVEN ROWS OF THIS SEAT. 7 by the template 'for every input the law returns true; each argument reads behind the call as it read before'; 0 by the template 'total and deterministic' (their statements: YbulkcxiTotals.lean).
  GIVEN WITH THE SEED: the statements are not yours to turn. If you find one false, say at which input.
  Laid BY PROGRAM, IN A SANDBOX (cutbox-rows.mjs): the forced cells as the released guide's own fill.sh prints them over the translation 1656488c6e288cd4… (all of the seat's roots in one cut). By AI agents, Wed Nov 11 2026. No macro, syntax, notation, axiom, sorry.
-/
import Derived.Test.YbulkcxiChecked
import GoSem.Claim
import GoSem.ClaimJoined
import GoSem.ClaimMapViews
import Derived.JoinedTies
import Derived.KernelRfl
namespace Go.Proofs.Ybulkcxi
/- THE CELL 'sum', in the pinned program and in every row, IS THE sha256 OF THE DUMP (.gsa) THAT YbulkcxiProg.lean LOADS. Nothing in Lean hashes anything: it is a label: what it is worth is what the hold of that sum in a sandbox is worth. -/
noncomputable def Yba.pinned : Pinned := { name := "ybulkcxi", sum := "1656488c6e288cd4ac32a7e79b04ae2debe21a5c31b7e58520d18cd240abe3bb", checked := Yba.checked }
namespace Rows
def none {H : Type} : Left H := { results := [], args := [] }

/-- 'steerwick.LawS0190AFirstAbove': WHATEVER THE INPUT: true; the input reads as it did. -/
def lawS0190AFirstAboveSpec : ChangeSpec := { name := "lawS0190AFirstAbove", fn := fun _ => fun
  | [d1, d2] => { results := [.lit (.bool true)], args := [d1, d2] }
  | _ => none }
def lawS0190AFirstAboveRow : OpenClaim := { program := "ybulkcxi", sum := "1656488c6e288cd4ac32a7e79b04ae2debe21a5c31b7e58520d18cd240abe3bb", func := "example.com/steerwick/steerwick.LawS0190AFirstAbove", spec := "lawS0190AFirstAbove", unfollowed := true, recurses := true, apart := false }
def LawS0190AFirstAboveSaid : Prop := lawS0190AFirstAboveRow.holds Yba.pinned (OpenSpec.ofChange lawS0190AFirstAboveSpec)

/-- ITS FALSE NEIGHBOUR: 'it returns false'. Refute it at one input. -/
def lawS0190AFirstAboveWrong : ChangeSpec := { name := "lawS0190AFirstAbove", fn := fun _ => fun
  | [d1, d2] => { results := [.lit (.bool false)], args := [d1, d2] }
  | _ => none }
def LawS0190AFirstAboveWrongFalsely : Prop := lawS0190AFirstAboveRow.holds Yba.pinned (OpenSpec.ofChange lawS0190AFirstAboveWrong)

/-- 'steerwick.LawS0190ANoneLeftOut': WHATEVER THE INPUT: true; the input reads as it did. -/
def lawS0190ANoneLeftOutSpec : ChangeSpec := { name := "lawS0190ANoneLeftOut", fn := fun _ => fun
  | [d1, d2] => { results := [.lit (.bool true)], args := [d1, d2] }
  | _ => none }
def lawS0190ANoneLeftOutRow : OpenClaim := { program := "ybulkcxi", sum := "1656488c6e288cd4ac32a7e79b04ae2debe21a5c31b7e58520d18cd240abe3bb", func := "example.com/steerwick/steerwick.LawS0190ANoneLeftOut", spec := "lawS0190ANoneLeftOut", unfollowed := true, recurses := true, apart := false }
def LawS0190ANoneLeftOutSaid : Prop := lawS0190ANoneLeftOutRow.holds Yba.pinned (OpenSpec.ofChange lawS0190ANoneLeftOutSpec)

/-- ITS FALSE NEIGHBOUR: 'it returns false'. Refute it at one input. -/
def lawS0190ANoneLeftOutWrong : ChangeSpec := { name := "lawS0190ANoneLeftOut", fn := fun _ => fun
  | [d1, d2] => { results := [.lit (.bool false)], args := [d1, d2] }
  | _ => none }
def LawS0190ANoneLeftOutWrongFalsely : Prop := lawS0190ANoneLeftOutRow.holds Yba.pinned (OpenSpec.ofChange lawS0190ANoneLeftOutWrong)

/-- 'steerwick.LawS0190BSnapshot': WHATEVER THE INPUT: true; the input reads as it did. -/
def lawS0190BSnapshotSpec : ChangeSpec := { name := "lawS0190BSnapshot", fn := fun _ => fun
  | [d1, d2, d3, d4] => { results := [.lit (.bool true)], args := [d1, d2, d3, d4] }
  | _ => none }
def lawS0190BSnapshotRow : OpenClaim := { program := "ybulkcxi", sum := "1656488c6e288cd4ac32a7e79b04ae2debe21a5c31b7e58520d18cd240abe3bb", func := "example.com/steerwick/steerwick.LawS0190BSnapshot", spec := "lawS0190BSnapshot", inPlace := ["sync/atomic.StorePointer", "sync/atomic.LoadPointer"], apart := false }
def LawS0190BSnapshotSaid : Prop := lawS0190BSnapshotRow.holds Yba.pinned (OpenSpec.ofChange lawS0190BSnapshotSpec)

/-- ITS FALSE NEIGHBOUR: 'it returns false'. Refute it at one input. -/
def lawS0190BSnapshotWrong : ChangeSpec := { name := "lawS0190BSnapshot", fn := fun _ => fun
  | [d1, d2, d3, d4] => { results := [.lit (.bool false)], args := [d1, d2, d3, d4] }
  | _ => none }
def LawS0190BSnapshotWrongFalsely : Prop := lawS0190BSnapshotRow.holds Yba.pinned (OpenSpec.ofChange lawS0190BSnapshotWrong)

/-- 'steerwick.LawS0190BSiblings': WHATEVER THE INPUT: true; the input reads as it did. -/
def lawS0190BSiblingsSpec : ChangeSpec := { name := "lawS0190BSiblings", fn := fun _ => fun
  | [d1, d2, d3, d4] => { results := [.lit (.bool true)], args := [d1, d2, d3, d4] }
  | _ => none }
def lawS0190BSiblingsRow : OpenClaim := { program := "ybulkcxi", sum := "1656488c6e288cd4ac32a7e79b04ae2debe21a5c31b7e58520d18cd240abe3bb", func := "example.com/steerwick/steerwick.LawS0190BSiblings", spec := "lawS0190BSiblings", inPlace := ["sync/atomic.StorePointer", "sync/atomic.LoadPointer"], apart := false }
def LawS0190BSiblingsSaid : Prop := lawS0190BSiblingsRow.holds Yba.pinned (OpenSpec.ofChange lawS0190BSiblingsSpec)

/-- ITS FALSE NEIGHBOUR: 'it returns false'. Refute it at one input. -/
def lawS0190BSiblingsWrong : ChangeSpec := { name := "lawS0190BSiblings", fn := fun _ => fun
  | [d1, d2, d3, d4] => { results := [.lit (.bool false)], args := [d1, d2, d3, d4] }
  | _ => none }
def LawS0190BSiblingsWrongFalsely : Prop := lawS0190BSiblingsRow.holds Yba.pinned (OpenSpec.ofChange lawS0190BSiblingsWrong)

/-- 'steerwick.LawS0190CModel': WHATEVER THE INPUT: true; the input reads as it did. -/
def lawS0190CModelSpec : ChangeSpec := { name := "lawS0190CModel", fn := fun _ => fun
  | [d1, d2] => { results := [.lit (.bool true)], args := [d1, d2] }
  | _ => none }
def lawS0190CModelRow : OpenClaim := { program := "ybulkcxi", sum := "1656488c6e288cd4ac32a7e79b04ae2debe21a5c31b7e58520d18cd240abe3bb", func := "example.com/steerwick/steerwick.LawS0190CModel", spec := "lawS0190CModel", apart := false }
def LawS0190CModelSaid : Prop := lawS0190CModelRow.holds Yba.pinned (OpenSpec.ofChange lawS0190CModelSpec)

/-- ITS FALSE NEIGHBOUR: 'it returns false'. Refute it at one input. -/
def lawS0190CModelWrong : ChangeSpec := { name := "lawS0190CModel", fn := fun _ => fun
  | [d1, d2] => { results := [.lit (.bool false)], args := [d1, d2] }
  | _ => none }
def LawS0190CModelWrongFalsely : Prop := lawS0190CModelRow.holds Yba.pinned (OpenSpec.ofChange lawS0190CModelWrong)

/-- 'steerwick.LawS0190CShape': WHATEVER THE INPUT: true; the input reads as it did. -/
def lawS0190CShapeSpec : ChangeSpec := { name := "lawS0190CShape", fn := fun _ => fun
  | [d1, d2] => { results := [.lit (.bool true)], args := [d1, d2] }
  | _ => none }
def lawS0190CShapeRow : OpenClaim := { program := "ybulkcxi", sum := "1656488c6e288cd4ac32a7e79b04ae2debe21a5c31b7e58520d18cd240abe3bb", func := "example.com/steerwick/steerwick.LawS0190CShape", spec := "lawS0190CShape", apart := false }
def LawS0190CShapeSaid : Prop := lawS0190CShapeRow.holds Yba.pinned (OpenSpec.ofChange lawS0190CShapeSpec)

/-- ITS FALSE NEIGHBOUR: 'it returns false'. Refute it at one input. -/
def lawS0190CShapeWrong : ChangeSpec := { name := "lawS0190CShape", fn := fun _ => fun
  | [d1, d2] => { results := [.lit (.bool false)], args := [d1, d2] }
  | _ => none }
def LawS0190CShapeWrongFalsely : Prop := lawS0190CShapeRow.holds Yba.pinned (OpenSpec.ofChange lawS0190CShapeWrong)

/-- 'steerwick.LawS0190CTriangle': WHATEVER THE INPUT: true; the input reads as it did. -/
def lawS0190CTriangleSpec : ChangeSpec := { name := "lawS0190CTriangle", fn := fun _ => fun
  | [d1, d2, d3] => { results := [.lit (.bool true)], args := [d1, d2, d3] }
  | _ => none }
def lawS0190CTriangleRow : OpenClaim := { program := "ybulkcxi", sum := "1656488c6e288cd4ac32a7e79b04ae2debe21a5c31b7e58520d18cd240abe3bb", func := "example.com/steerwick/steerwick.LawS0190CTriangle", spec := "lawS0190CTriangle", apart := false }
def LawS0190CTriangleSaid : Prop := lawS0190CTriangleRow.holds Yba.pinned (OpenSpec.ofChange lawS0190CTriangleSpec)

/-- ITS FALSE NEIGHBOUR: 'it returns false'. Refute it at one input. -/
def lawS0190CTriangleWrong : ChangeSpec := { name := "lawS0190CTriangle", fn := fun _ => fun
  | [d1, d2, d3] => { results := [.lit (.bool false)], args := [d1, d2, d3] }
  | _ => none }
def LawS0190CTriangleWrongFalsely : Prop := lawS0190CTriangleRow.holds Yba.pinned (OpenSpec.ofChange lawS0190CTriangleWrong)

end Rows
end Go.Proofs.Ybulkcxi
