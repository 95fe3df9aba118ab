/-
  No cell of these rows narrows 'for every input' (looked for: loops, veiled, ifaces, maps, wideKeys, modest, calm, conditions, laid).
  DERIVED. THE GIVEN ROWS OF THIS SEAT. 4 by the template 'for every input the law returns true; each argument reads behind the call as it read before'; 0 by the template 'total and deterministic' (their statements: YbulkdbccTotals.lean).
  GIVEN WITH THE SEED: the statements are not yours to turn. If you find one false, say at which input.
  Laid BY PROGRAM, IN A SANDBOX (cutbox-rows.mjs): the forced cells as the released guide's own fill.sh prints them over the translation 4b1280b5c6628851… (all of the seat's roots in one cut). By AI agents, Wed Nov 11 2026. No macro, syntax, notation, axiom, sorry.
-/
import Derived.Test.YbulkdbccChecked
import GoSem.Claim
import GoSem.ClaimJoined
import GoSem.ClaimMapViews
import Derived.JoinedTies
import Derived.KernelRfl
namespace Go.Proofs.Ybulkdbcc
/- THE CELL 'sum', in the pinned program and in every row, IS THE sha256 OF THE DUMP (.gsa) THAT YbulkdbccProg.lean LOADS. Nothing in Lean hashes anything: it is a label: what it is worth is what the hold of that sum in a sandbox is worth. -/
noncomputable def Yba.pinned : Pinned := { name := "ybulkdbcc", sum := "4b1280b5c662885118ced262bed494df849485752ff66d5af73e6e175af9b99d", checked := Yba.checked }
namespace Rows
def none {H : Type} : Left H := { results := [], args := [] }

/-- 'tandemkey.LawS5124AFirstMatch': WHATEVER THE INPUT: true; the input reads as it did. -/
def lawS5124AFirstMatchSpec : ChangeSpec := { name := "lawS5124AFirstMatch", fn := fun _ => fun
  | [d1, d2, d3] => { results := [.lit (.bool true)], args := [d1, d2, d3] }
  | _ => none }
def lawS5124AFirstMatchRow : OpenClaim := { program := "ybulkdbcc", sum := "4b1280b5c662885118ced262bed494df849485752ff66d5af73e6e175af9b99d", func := "example.com/tandemkey/tandemkey.LawS5124AFirstMatch", spec := "lawS5124AFirstMatch", plainKeys := false, apart := false }
def LawS5124AFirstMatchSaid : Prop := lawS5124AFirstMatchRow.holds Yba.pinned (OpenSpec.ofChange lawS5124AFirstMatchSpec)

/-- ITS FALSE NEIGHBOUR: 'it returns false'. Refute it at one input. -/
def lawS5124AFirstMatchWrong : ChangeSpec := { name := "lawS5124AFirstMatch", fn := fun _ => fun
  | [d1, d2, d3] => { results := [.lit (.bool false)], args := [d1, d2, d3] }
  | _ => none }
def LawS5124AFirstMatchWrongFalsely : Prop := lawS5124AFirstMatchRow.holds Yba.pinned (OpenSpec.ofChange lawS5124AFirstMatchWrong)

/-- 'tandemkey.LawS5124AStopsAtMatch': WHATEVER THE INPUT: true; the input reads as it did. -/
def lawS5124AStopsAtMatchSpec : ChangeSpec := { name := "lawS5124AStopsAtMatch", fn := fun _ => fun
  | [d1, d2, d3] => { results := [.lit (.bool true)], args := [d1, d2, d3] }
  | _ => none }
def lawS5124AStopsAtMatchRow : OpenClaim := { program := "ybulkdbcc", sum := "4b1280b5c662885118ced262bed494df849485752ff66d5af73e6e175af9b99d", func := "example.com/tandemkey/tandemkey.LawS5124AStopsAtMatch", spec := "lawS5124AStopsAtMatch", plainKeys := false, apart := false }
def LawS5124AStopsAtMatchSaid : Prop := lawS5124AStopsAtMatchRow.holds Yba.pinned (OpenSpec.ofChange lawS5124AStopsAtMatchSpec)

/-- ITS FALSE NEIGHBOUR: 'it returns false'. Refute it at one input. -/
def lawS5124AStopsAtMatchWrong : ChangeSpec := { name := "lawS5124AStopsAtMatch", fn := fun _ => fun
  | [d1, d2, d3] => { results := [.lit (.bool false)], args := [d1, d2, d3] }
  | _ => none }
def LawS5124AStopsAtMatchWrongFalsely : Prop := lawS5124AStopsAtMatchRow.holds Yba.pinned (OpenSpec.ofChange lawS5124AStopsAtMatchWrong)

/-- 'tandemkey.LawS5124BExact': WHATEVER THE INPUT: true; the input reads as it did. -/
def lawS5124BExactSpec : ChangeSpec := { name := "lawS5124BExact", fn := fun _ => fun
  | [d1, d2, d3] => { results := [.lit (.bool true)], args := [d1, d2, d3] }
  | _ => none }
def lawS5124BExactRow : OpenClaim := { program := "ybulkdbcc", sum := "4b1280b5c662885118ced262bed494df849485752ff66d5af73e6e175af9b99d", func := "example.com/tandemkey/tandemkey.LawS5124BExact", spec := "lawS5124BExact", plainKeys := false, apart := false }
def LawS5124BExactSaid : Prop := lawS5124BExactRow.holds Yba.pinned (OpenSpec.ofChange lawS5124BExactSpec)

/-- ITS FALSE NEIGHBOUR: 'it returns false'. Refute it at one input. -/
def lawS5124BExactWrong : ChangeSpec := { name := "lawS5124BExact", fn := fun _ => fun
  | [d1, d2, d3] => { results := [.lit (.bool false)], args := [d1, d2, d3] }
  | _ => none }
def LawS5124BExactWrongFalsely : Prop := lawS5124BExactRow.holds Yba.pinned (OpenSpec.ofChange lawS5124BExactWrong)

/-- 'tandemkey.LawS5124BOrder': WHATEVER THE INPUT: true; the input reads as it did. -/
def lawS5124BOrderSpec : ChangeSpec := { name := "lawS5124BOrder", fn := fun _ => fun
  | [d1, d2] => { results := [.lit (.bool true)], args := [d1, d2] }
  | _ => none }
def lawS5124BOrderRow : OpenClaim := { program := "ybulkdbcc", sum := "4b1280b5c662885118ced262bed494df849485752ff66d5af73e6e175af9b99d", func := "example.com/tandemkey/tandemkey.LawS5124BOrder", spec := "lawS5124BOrder", plainKeys := false, apart := false }
def LawS5124BOrderSaid : Prop := lawS5124BOrderRow.holds Yba.pinned (OpenSpec.ofChange lawS5124BOrderSpec)

/-- ITS FALSE NEIGHBOUR: 'it returns false'. Refute it at one input. -/
def lawS5124BOrderWrong : ChangeSpec := { name := "lawS5124BOrder", fn := fun _ => fun
  | [d1, d2] => { results := [.lit (.bool false)], args := [d1, d2] }
  | _ => none }
def LawS5124BOrderWrongFalsely : Prop := lawS5124BOrderRow.holds Yba.pinned (OpenSpec.ofChange lawS5124BOrderWrong)

end Rows
end Go.Proofs.Ybulkdbcc
