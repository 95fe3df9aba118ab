/-
  No cell of these rows narrows 'for every input' (looked for: loops, veiled, ifaces, maps, wideKeys, modest, calm, conditions, laid).
  DERIVED. THE GIVEN ROWS OF THIS SEAT. 3 by the template 'for every input the law returns true; each argument reads behind the call as it read before'; 0 by the template 'total and deterministic' (their statements: YbulkdbboTotals.lean).
  GIVEN WITH THE SEED: the statements are not yours to turn. If you find one false, say at which input.
  Laid BY PROGRAM, IN A SANDBOX (cutbox-rows.mjs): the forced cells as the released guide's own fill.sh prints them over the translation c5362fb31a1eef40… (all of the seat's roots in one cut). By AI agents, Wed Nov 11 2026. No macro, syntax, notation, axiom, sorry.
-/
import Derived.Test.YbulkdbboChecked
import GoSem.Claim
import GoSem.ClaimJoined
import GoSem.ClaimMapViews
import Derived.JoinedTies
import Derived.KernelRfl
namespace Go.Proofs.Ybulkdbbo
/- THE CELL 'sum', in the pinned program and in every row, IS THE sha256 OF THE DUMP (.gsa) THAT YbulkdbboProg.lean LOADS. Nothing in Lean hashes anything: it is a label: what it is worth is what the hold of that sum in a sandbox is worth. -/
noncomputable def Yba.pinned : Pinned := { name := "ybulkdbbo", sum := "c5362fb31a1eef40dacf214b672c9d5bb94e5330a8430449266cd6d970bc9c1b", checked := Yba.checked }
namespace Rows
def none {H : Type} : Left H := { results := [], args := [] }

/-- 'sluice.LawS5123AModel': WHATEVER THE INPUT: true; the input reads as it did. -/
def lawS5123AModelSpec : ChangeSpec := { name := "lawS5123AModel", fn := fun _ => fun
  | [d1, d2, d3, d4, d5] => { results := [.lit (.bool true)], args := [d1, d2, d3, d4, d5] }
  | _ => none }
def lawS5123AModelRow : OpenClaim := { program := "ybulkdbbo", sum := "c5362fb31a1eef40dacf214b672c9d5bb94e5330a8430449266cd6d970bc9c1b", func := "example.com/sluice/sluice.LawS5123AModel", spec := "lawS5123AModel", inPlace := ["math/bits.Add64"], named := ["math/bits.divideError", "math/bits.overflowError"], plainKeys := false, apart := false }
def LawS5123AModelSaid : Prop := lawS5123AModelRow.holds Yba.pinned (OpenSpec.ofChange lawS5123AModelSpec)

/-- ITS FALSE NEIGHBOUR: 'it returns false'. Refute it at one input. -/
def lawS5123AModelWrong : ChangeSpec := { name := "lawS5123AModel", fn := fun _ => fun
  | [d1, d2, d3, d4, d5] => { results := [.lit (.bool false)], args := [d1, d2, d3, d4, d5] }
  | _ => none }
def LawS5123AModelWrongFalsely : Prop := lawS5123AModelRow.holds Yba.pinned (OpenSpec.ofChange lawS5123AModelWrong)

/-- 'sluice.LawS5123ASmall': WHATEVER THE INPUT: true; the input reads as it did. -/
def lawS5123ASmallSpec : ChangeSpec := { name := "lawS5123ASmall", fn := fun _ => fun
  | [d1, d2] => { results := [.lit (.bool true)], args := [d1, d2] }
  | _ => none }
def lawS5123ASmallRow : OpenClaim := { program := "ybulkdbbo", sum := "c5362fb31a1eef40dacf214b672c9d5bb94e5330a8430449266cd6d970bc9c1b", func := "example.com/sluice/sluice.LawS5123ASmall", spec := "lawS5123ASmall", inPlace := ["math/bits.Add64"], named := ["math/bits.divideError", "math/bits.overflowError"], plainKeys := false, apart := false }
def LawS5123ASmallSaid : Prop := lawS5123ASmallRow.holds Yba.pinned (OpenSpec.ofChange lawS5123ASmallSpec)

/-- ITS FALSE NEIGHBOUR: 'it returns false'. Refute it at one input. -/
def lawS5123ASmallWrong : ChangeSpec := { name := "lawS5123ASmall", fn := fun _ => fun
  | [d1, d2] => { results := [.lit (.bool false)], args := [d1, d2] }
  | _ => none }
def LawS5123ASmallWrongFalsely : Prop := lawS5123ASmallRow.holds Yba.pinned (OpenSpec.ofChange lawS5123ASmallWrong)

/-- 'sluice.LawS5123CForget': WHATEVER THE INPUT: true; the input reads as it did. -/
def lawS5123CForgetSpec : ChangeSpec := { name := "lawS5123CForget", fn := fun _ => fun
  | [d] => { results := [.lit (.bool true)], args := [d] }
  | _ => none }
def lawS5123CForgetRow : OpenClaim := { program := "ybulkdbbo", sum := "c5362fb31a1eef40dacf214b672c9d5bb94e5330a8430449266cd6d970bc9c1b", func := "example.com/sluice/sluice.LawS5123CForget", spec := "lawS5123CForget", inPlace := ["math/bits.Add64", "math/bits.Sub64"], unfollowed := true, recurses := true, plainKeys := false, apart := false }
def LawS5123CForgetSaid : Prop := lawS5123CForgetRow.holds Yba.pinned (OpenSpec.ofChange lawS5123CForgetSpec)

/-- ITS FALSE NEIGHBOUR: 'it returns false'. Refute it at one input. -/
def lawS5123CForgetWrong : ChangeSpec := { name := "lawS5123CForget", fn := fun _ => fun
  | [d] => { results := [.lit (.bool false)], args := [d] }
  | _ => none }
def LawS5123CForgetWrongFalsely : Prop := lawS5123CForgetRow.holds Yba.pinned (OpenSpec.ofChange lawS5123CForgetWrong)

end Rows
end Go.Proofs.Ybulkdbbo
