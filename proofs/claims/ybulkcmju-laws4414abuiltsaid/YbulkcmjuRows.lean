/-
  No cell of these rows narrows 'for every input' (looked for: loops, veiled, ifaces, maps, wideKeys, modest, calm, conditions, laid).
  DERIVED. THE GIVEN ROWS OF THIS SEAT. 4 by the template 'for every input the law returns true; each argument reads behind the call as it read before'; 0 by the template 'total and deterministic' (their statements: YbulkcmjuTotals.lean).
  GIVEN WITH THE SEED: the statements are not yours to turn. If you find one false, say at which input.
  Laid BY PROGRAM, IN A SANDBOX (cutbox-rows.mjs): the forced cells as the released guide's own fill.sh prints them over the translation 3b3a3d470bac37c0… (all of the seat's roots in one cut). By AI agents, Wed Nov 11 2026. No macro, syntax, notation, axiom, sorry.
-/
import Derived.Test.YbulkcmjuChecked
import GoSem.Claim
import GoSem.ClaimJoined
import GoSem.ClaimMapViews
import Derived.JoinedTies
import Derived.KernelRfl
namespace Go.Proofs.Ybulkcmju
/- THE CELL 'sum', in the pinned program and in every row, IS THE sha256 OF THE DUMP (.gsa) THAT YbulkcmjuProg.lean LOADS. Nothing in Lean hashes anything: it is a label: what it is worth is what the hold of that sum in a sandbox is worth. -/
noncomputable def Yba.pinned : Pinned := { name := "ybulkcmju", sum := "3b3a3d470bac37c0a8d19fac31e000936ff6c40979c9a0bb9796b20a7a6eb9a9", checked := Yba.checked }
namespace Rows
def none {H : Type} : Left H := { results := [], args := [] }

/-- 'timestamp.LawS4414ABuilt': WHATEVER THE INPUT: true; the input reads as it did. -/
def lawS4414ABuiltSpec : ChangeSpec := { name := "lawS4414ABuilt", fn := fun _ => fun
  | [d1, d2, d3, d4, d5, d6] => { results := [.lit (.bool true)], args := [d1, d2, d3, d4, d5, d6] }
  | _ => none }
def lawS4414ABuiltRow : OpenClaim := { program := "ybulkcmju", sum := "3b3a3d470bac37c0a8d19fac31e000936ff6c40979c9a0bb9796b20a7a6eb9a9", func := "example.com/zonewright/zonewright/pkg/timestamp.LawS4414ABuilt", spec := "lawS4414ABuilt", apart := false }
def LawS4414ABuiltSaid : Prop := lawS4414ABuiltRow.holds Yba.pinned (OpenSpec.ofChange lawS4414ABuiltSpec)

/-- ITS FALSE NEIGHBOUR: 'it returns false'. Refute it at one input. -/
def lawS4414ABuiltWrong : ChangeSpec := { name := "lawS4414ABuilt", fn := fun _ => fun
  | [d1, d2, d3, d4, d5, d6] => { results := [.lit (.bool false)], args := [d1, d2, d3, d4, d5, d6] }
  | _ => none }
def LawS4414ABuiltWrongFalsely : Prop := lawS4414ABuiltRow.holds Yba.pinned (OpenSpec.ofChange lawS4414ABuiltWrong)

/-- 'timestamp.LawS4414ARaw': WHATEVER THE INPUT: true; the input reads as it did. -/
def lawS4414ARawSpec : ChangeSpec := { name := "lawS4414ARaw", fn := fun _ => fun
  | [d1, d2] => { results := [.lit (.bool true)], args := [d1, d2] }
  | _ => none }
def lawS4414ARawRow : OpenClaim := { program := "ybulkcmju", sum := "3b3a3d470bac37c0a8d19fac31e000936ff6c40979c9a0bb9796b20a7a6eb9a9", func := "example.com/zonewright/zonewright/pkg/timestamp.LawS4414ARaw", spec := "lawS4414ARaw", apart := false }
def LawS4414ARawSaid : Prop := lawS4414ARawRow.holds Yba.pinned (OpenSpec.ofChange lawS4414ARawSpec)

/-- ITS FALSE NEIGHBOUR: 'it returns false'. Refute it at one input. -/
def lawS4414ARawWrong : ChangeSpec := { name := "lawS4414ARaw", fn := fun _ => fun
  | [d1, d2] => { results := [.lit (.bool false)], args := [d1, d2] }
  | _ => none }
def LawS4414ARawWrongFalsely : Prop := lawS4414ARawRow.holds Yba.pinned (OpenSpec.ofChange lawS4414ARawWrong)

/-- 'timestamp.LawS4414CModel': WHATEVER THE INPUT: true; the input reads as it did. -/
def lawS4414CModelSpec : ChangeSpec := { name := "lawS4414CModel", fn := fun _ => fun
  | [d] => { results := [.lit (.bool true)], args := [d] }
  | _ => none }
def lawS4414CModelRow : OpenClaim := { program := "ybulkcmju", sum := "3b3a3d470bac37c0a8d19fac31e000936ff6c40979c9a0bb9796b20a7a6eb9a9", func := "example.com/zonewright/zonewright/pkg/timestamp.LawS4414CModel", spec := "lawS4414CModel", apart := false }
def LawS4414CModelSaid : Prop := lawS4414CModelRow.holds Yba.pinned (OpenSpec.ofChange lawS4414CModelSpec)

/-- ITS FALSE NEIGHBOUR: 'it returns false'. Refute it at one input. -/
def lawS4414CModelWrong : ChangeSpec := { name := "lawS4414CModel", fn := fun _ => fun
  | [d] => { results := [.lit (.bool false)], args := [d] }
  | _ => none }
def LawS4414CModelWrongFalsely : Prop := lawS4414CModelRow.holds Yba.pinned (OpenSpec.ofChange lawS4414CModelWrong)

/-- 'timestamp.LawS4414CBuilt': WHATEVER THE INPUT: true; the input reads as it did. -/
def lawS4414CBuiltSpec : ChangeSpec := { name := "lawS4414CBuilt", fn := fun _ => fun
  | [d1, d2, d3, d4, d5] => { results := [.lit (.bool true)], args := [d1, d2, d3, d4, d5] }
  | _ => none }
def lawS4414CBuiltRow : OpenClaim := { program := "ybulkcmju", sum := "3b3a3d470bac37c0a8d19fac31e000936ff6c40979c9a0bb9796b20a7a6eb9a9", func := "example.com/zonewright/zonewright/pkg/timestamp.LawS4414CBuilt", spec := "lawS4414CBuilt", apart := false }
def LawS4414CBuiltSaid : Prop := lawS4414CBuiltRow.holds Yba.pinned (OpenSpec.ofChange lawS4414CBuiltSpec)

/-- ITS FALSE NEIGHBOUR: 'it returns false'. Refute it at one input. -/
def lawS4414CBuiltWrong : ChangeSpec := { name := "lawS4414CBuilt", fn := fun _ => fun
  | [d1, d2, d3, d4, d5] => { results := [.lit (.bool false)], args := [d1, d2, d3, d4, d5] }
  | _ => none }
def LawS4414CBuiltWrongFalsely : Prop := lawS4414CBuiltRow.holds Yba.pinned (OpenSpec.ofChange lawS4414CBuiltWrong)

end Rows
end Go.Proofs.Ybulkcmju
