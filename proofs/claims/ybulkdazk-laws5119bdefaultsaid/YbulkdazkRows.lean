/-
  No cell of these rows narrows 'for every input' (looked for: loops, veiled, ifaces, maps, wideKeys, modest, calm, conditions, laid).
  DERIVED. THE GIVEN ROWS OF THIS SEAT. 2 by the template 'for every input the law returns true; each argument reads behind the call as it read before'; 0 by the template 'total and deterministic' (their statements: YbulkdazkTotals.lean).
  GIVEN WITH THE SEED: the statements are not yours to turn. If you find one false, say at which input.
  Laid BY PROGRAM, IN A SANDBOX (cutbox-rows.mjs): the forced cells as the released guide's own fill.sh prints them over the translation 063d820a7d11d043… (all of the seat's roots in one cut). By AI agents, Wed Nov 11 2026. No macro, syntax, notation, axiom, sorry.
-/
import Derived.Test.YbulkdazkChecked
import GoSem.Claim
import GoSem.ClaimJoined
import GoSem.ClaimMapViews
import Derived.JoinedTies
import Derived.KernelRfl
namespace Go.Proofs.Ybulkdazk
/- THE CELL 'sum', in the pinned program and in every row, IS THE sha256 OF THE DUMP (.gsa) THAT YbulkdazkProg.lean LOADS. Nothing in Lean hashes anything: it is a label: what it is worth is what the hold of that sum in a sandbox is worth. -/
noncomputable def Yba.pinned : Pinned := { name := "ybulkdazk", sum := "063d820a7d11d0436b4a875b58cb5ce88b092de179c45d25c5d5d5c72ad4dde8", checked := Yba.checked }
namespace Rows
def none {H : Type} : Left H := { results := [], args := [] }

/-- 'relent.LawS5119BGiven': WHATEVER THE INPUT: true; the input reads as it did. -/
def lawS5119BGivenSpec : ChangeSpec := { name := "lawS5119BGiven", fn := fun _ => fun
  | [d1, d2, d3, d4] => { results := [.lit (.bool true)], args := [d1, d2, d3, d4] }
  | _ => none }
def lawS5119BGivenRow : OpenClaim := { program := "ybulkdazk", sum := "063d820a7d11d0436b4a875b58cb5ce88b092de179c45d25c5d5d5c72ad4dde8", func := "example.com/relent/relent.LawS5119BGiven", spec := "lawS5119BGiven", unfollowed := true, recurses := true, apart := false }
def LawS5119BGivenSaid : Prop := lawS5119BGivenRow.holds Yba.pinned (OpenSpec.ofChange lawS5119BGivenSpec)

/-- ITS FALSE NEIGHBOUR: 'it returns false'. Refute it at one input. -/
def lawS5119BGivenWrong : ChangeSpec := { name := "lawS5119BGiven", fn := fun _ => fun
  | [d1, d2, d3, d4] => { results := [.lit (.bool false)], args := [d1, d2, d3, d4] }
  | _ => none }
def LawS5119BGivenWrongFalsely : Prop := lawS5119BGivenRow.holds Yba.pinned (OpenSpec.ofChange lawS5119BGivenWrong)

/-- 'relent.LawS5119BDefault': WHATEVER THE INPUT: true; the input reads as it did. -/
def lawS5119BDefaultSpec : ChangeSpec := { name := "lawS5119BDefault", fn := fun _ => fun
  | [d1, d2, d3] => { results := [.lit (.bool true)], args := [d1, d2, d3] }
  | _ => none }
def lawS5119BDefaultRow : OpenClaim := { program := "ybulkdazk", sum := "063d820a7d11d0436b4a875b58cb5ce88b092de179c45d25c5d5d5c72ad4dde8", func := "example.com/relent/relent.LawS5119BDefault", spec := "lawS5119BDefault", apart := false }
def LawS5119BDefaultSaid : Prop := lawS5119BDefaultRow.holds Yba.pinned (OpenSpec.ofChange lawS5119BDefaultSpec)

/-- ITS FALSE NEIGHBOUR: 'it returns false'. Refute it at one input. -/
def lawS5119BDefaultWrong : ChangeSpec := { name := "lawS5119BDefault", fn := fun _ => fun
  | [d1, d2, d3] => { results := [.lit (.bool false)], args := [d1, d2, d3] }
  | _ => none }
def LawS5119BDefaultWrongFalsely : Prop := lawS5119BDefaultRow.holds Yba.pinned (OpenSpec.ofChange lawS5119BDefaultWrong)

end Rows
end Go.Proofs.Ybulkdazk
