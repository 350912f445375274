/-
  No cell of these rows narrows 'for every input' (looked for: loops, veiled, ifaces, maps, wideKeys, modest, calm, conditions, laid).
  DERIVED. THE GIVEN ROWS OF THIS SEAT. 5 by the template 'for every input the law returns true; each argument reads behind the call as it read before'; 0 by the template 'total and deterministic' (their statements: YbulkcmlyTotals.lean).
  GIVEN WITH THE SEED: the statements are not yours to turn. If you find one false, say at which input.
  Laid BY PROGRAM, IN A SANDBOX (cutbox-rows.mjs): the forced cells as the released guide's own fill.sh prints them over the translation c1ff062e33b43a14… (all of the seat's roots in one cut). By AI agents, Wed Nov 11 2026. No macro, syntax, notation, axiom, sorry.
-/
import Derived.Test.YbulkcmlyChecked
import GoSem.Claim
import GoSem.ClaimJoined
import GoSem.ClaimMapViews
import Derived.JoinedTies
import Derived.KernelRfl
namespace Go.Proofs.Ybulkcmly
/- THE CELL 'sum', in the pinned program and in every row, IS THE sha256 OF THE DUMP (.gsa) THAT YbulkcmlyProg.lean LOADS. Nothing in Lean hashes anything: it is a label: what it is worth is what the hold of that sum in a sandbox is worth. -/
noncomputable def Yba.pinned : Pinned := { name := "ybulkcmly", sum := "c1ff062e33b43a142d02f0ad944cfeada257abd384bc38efd1e43d035c55eddb", checked := Yba.checked }
namespace Rows
def none {H : Type} : Left H := { results := [], args := [] }

/-- 'denary.LawS4418AModel': WHATEVER THE INPUT: true; the input reads as it did. -/
def lawS4418AModelSpec : ChangeSpec := { name := "lawS4418AModel", fn := fun _ => fun
  | [d1, d2] => { results := [.lit (.bool true)], args := [d1, d2] }
  | _ => none }
def lawS4418AModelRow : OpenClaim := { program := "ybulkcmly", sum := "c1ff062e33b43a142d02f0ad944cfeada257abd384bc38efd1e43d035c55eddb", func := "example.com/denary/denary.LawS4418AModel", spec := "lawS4418AModel", inPlace := ["math/bits.Add64", "math/bits.Sub64"], recurses := true, apart := false }
def LawS4418AModelSaid : Prop := lawS4418AModelRow.holds Yba.pinned (OpenSpec.ofChange lawS4418AModelSpec)

/-- ITS FALSE NEIGHBOUR: 'it returns false'. Refute it at one input. -/
def lawS4418AModelWrong : ChangeSpec := { name := "lawS4418AModel", fn := fun _ => fun
  | [d1, d2] => { results := [.lit (.bool false)], args := [d1, d2] }
  | _ => none }
def LawS4418AModelWrongFalsely : Prop := lawS4418AModelRow.holds Yba.pinned (OpenSpec.ofChange lawS4418AModelWrong)

/-- 'denary.LawS4418ACommute': WHATEVER THE INPUT: true; the input reads as it did. -/
def lawS4418ACommuteSpec : ChangeSpec := { name := "lawS4418ACommute", fn := fun _ => fun
  | [d1, d2, d3] => { results := [.lit (.bool true)], args := [d1, d2, d3] }
  | _ => none }
def lawS4418ACommuteRow : OpenClaim := { program := "ybulkcmly", sum := "c1ff062e33b43a142d02f0ad944cfeada257abd384bc38efd1e43d035c55eddb", func := "example.com/denary/denary.LawS4418ACommute", spec := "lawS4418ACommute", inPlace := ["math/bits.Add64", "math/bits.Sub64"], recurses := true, apart := false }
def LawS4418ACommuteSaid : Prop := lawS4418ACommuteRow.holds Yba.pinned (OpenSpec.ofChange lawS4418ACommuteSpec)

/-- ITS FALSE NEIGHBOUR: 'it returns false'. Refute it at one input. -/
def lawS4418ACommuteWrong : ChangeSpec := { name := "lawS4418ACommute", fn := fun _ => fun
  | [d1, d2, d3] => { results := [.lit (.bool false)], args := [d1, d2, d3] }
  | _ => none }
def LawS4418ACommuteWrongFalsely : Prop := lawS4418ACommuteRow.holds Yba.pinned (OpenSpec.ofChange lawS4418ACommuteWrong)

/-- 'denary.LawS4418BExact': WHATEVER THE INPUT: true; the input reads as it did. -/
def lawS4418BExactSpec : ChangeSpec := { name := "lawS4418BExact", fn := fun _ => fun
  | [d1, d2, d3] => { results := [.lit (.bool true)], args := [d1, d2, d3] }
  | _ => none }
def lawS4418BExactRow : OpenClaim := { program := "ybulkcmly", sum := "c1ff062e33b43a142d02f0ad944cfeada257abd384bc38efd1e43d035c55eddb", func := "example.com/denary/denary.LawS4418BExact", spec := "lawS4418BExact", inPlace := ["math/bits.Sub64", "math/bits.Add64"], apart := false }
def LawS4418BExactSaid : Prop := lawS4418BExactRow.holds Yba.pinned (OpenSpec.ofChange lawS4418BExactSpec)

/-- ITS FALSE NEIGHBOUR: 'it returns false'. Refute it at one input. -/
def lawS4418BExactWrong : ChangeSpec := { name := "lawS4418BExact", fn := fun _ => fun
  | [d1, d2, d3] => { results := [.lit (.bool false)], args := [d1, d2, d3] }
  | _ => none }
def LawS4418BExactWrongFalsely : Prop := lawS4418BExactRow.holds Yba.pinned (OpenSpec.ofChange lawS4418BExactWrong)

/-- 'denary.LawS4418BOneWord': WHATEVER THE INPUT: true; the input reads as it did. -/
def lawS4418BOneWordSpec : ChangeSpec := { name := "lawS4418BOneWord", fn := fun _ => fun
  | [d1, d2, d3, d4, d5] => { results := [.lit (.bool true)], args := [d1, d2, d3, d4, d5] }
  | _ => none }
def lawS4418BOneWordRow : OpenClaim := { program := "ybulkcmly", sum := "c1ff062e33b43a142d02f0ad944cfeada257abd384bc38efd1e43d035c55eddb", func := "example.com/denary/denary.LawS4418BOneWord", spec := "lawS4418BOneWord", inPlace := ["math/bits.Sub64"], apart := false }
def LawS4418BOneWordSaid : Prop := lawS4418BOneWordRow.holds Yba.pinned (OpenSpec.ofChange lawS4418BOneWordSpec)

/-- ITS FALSE NEIGHBOUR: 'it returns false'. Refute it at one input. -/
def lawS4418BOneWordWrong : ChangeSpec := { name := "lawS4418BOneWord", fn := fun _ => fun
  | [d1, d2, d3, d4, d5] => { results := [.lit (.bool false)], args := [d1, d2, d3, d4, d5] }
  | _ => none }
def LawS4418BOneWordWrongFalsely : Prop := lawS4418BOneWordRow.holds Yba.pinned (OpenSpec.ofChange lawS4418BOneWordWrong)

/-- 'denary.LawS4418CFields': WHATEVER THE INPUT: true; the input reads as it did. -/
def lawS4418CFieldsSpec : ChangeSpec := { name := "lawS4418CFields", fn := fun _ => fun
  | [d1, d2] => { results := [.lit (.bool true)], args := [d1, d2] }
  | _ => none }
def lawS4418CFieldsRow : OpenClaim := { program := "ybulkcmly", sum := "c1ff062e33b43a142d02f0ad944cfeada257abd384bc38efd1e43d035c55eddb", func := "example.com/denary/denary.LawS4418CFields", spec := "lawS4418CFields", inPlace := ["math/bits.Add64"], apart := false }
def LawS4418CFieldsSaid : Prop := lawS4418CFieldsRow.holds Yba.pinned (OpenSpec.ofChange lawS4418CFieldsSpec)

/-- ITS FALSE NEIGHBOUR: 'it returns false'. Refute it at one input. -/
def lawS4418CFieldsWrong : ChangeSpec := { name := "lawS4418CFields", fn := fun _ => fun
  | [d1, d2] => { results := [.lit (.bool false)], args := [d1, d2] }
  | _ => none }
def LawS4418CFieldsWrongFalsely : Prop := lawS4418CFieldsRow.holds Yba.pinned (OpenSpec.ofChange lawS4418CFieldsWrong)

end Rows
end Go.Proofs.Ybulkcmly
