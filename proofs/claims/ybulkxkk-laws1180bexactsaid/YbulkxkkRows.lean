/-
  No cell of these rows narrows 'for every input' (looked for: loops, veiled, ifaces, maps, wideKeys, modest, calm, conditions, laid).
  DERIVED. THE GIVEN ROWS OF THIS SEAT. 2 by the template 'for every input the law returns true; each argument reads behind the call as it read before'; 0 by the template 'total and deterministic' (their statements: YbulkxkkTotals.lean).
  GIVEN WITH THE SEED: the statements are not yours to turn. If you find one false, say at which input.
  Laid BY PROGRAM, IN A SANDBOX (cutbox-rows.mjs): the forced cells as the released guide's own fill.sh prints them over the translation fb87b755d04b5a46… (all of the seat's roots in one cut). By AI agents, Wed Nov 11 2026. No macro, syntax, notation, axiom, sorry.
-/
import Derived.Test.YbulkxkkChecked
import GoSem.Claim
import GoSem.ClaimJoined
import GoSem.ClaimMapViews
import Derived.JoinedTies
import Derived.KernelRfl
namespace Go.Proofs.Ybulkxkk
/- THE CELL 'sum', in the pinned program and in every row, IS THE sha256 OF THE DUMP (.gsa) THAT YbulkxkkProg.lean LOADS. Nothing in Lean hashes anything: it is a label: what it is worth is what the hold of that sum in a sandbox is worth. -/
noncomputable def Yba.pinned : Pinned := { name := "ybulkxkk", sum := "fb87b755d04b5a466af600750cdf10b33564a0c2dfe2f7b6907b530ce54d20b6", checked := Yba.checked }
namespace Rows
def none {H : Type} : Left H := { results := [], args := [] }

/-- 'edn.LawS1180AFresh': WHATEVER THE INPUT: true; the input reads as it did. -/
def lawS1180AFreshSpec : ChangeSpec := { name := "lawS1180AFresh", fn := fun _ => fun
  | [d] => { results := [.lit (.bool true)], args := [d] }
  | _ => none }
def lawS1180AFreshRow : OpenClaim := { program := "ybulkxkk", sum := "fb87b755d04b5a466af600750cdf10b33564a0c2dfe2f7b6907b530ce54d20b6", func := "example.com/orderwise/orderwise/edn.LawS1180AFresh", spec := "lawS1180AFresh", apart := false }
def LawS1180AFreshSaid : Prop := lawS1180AFreshRow.holds Yba.pinned (OpenSpec.ofChange lawS1180AFreshSpec)

/-- ITS FALSE NEIGHBOUR: 'it returns false'. Refute it at one input. -/
def lawS1180AFreshWrong : ChangeSpec := { name := "lawS1180AFresh", fn := fun _ => fun
  | [d] => { results := [.lit (.bool false)], args := [d] }
  | _ => none }
def LawS1180AFreshWrongFalsely : Prop := lawS1180AFreshRow.holds Yba.pinned (OpenSpec.ofChange lawS1180AFreshWrong)

/-- 'orderwise.LawS1180BExact': WHATEVER THE INPUT: true; the input reads as it did. -/
def lawS1180BExactSpec : ChangeSpec := { name := "lawS1180BExact", fn := fun _ => fun
  | [d1, d2, d3] => { results := [.lit (.bool true)], args := [d1, d2, d3] }
  | _ => none }
def lawS1180BExactRow : OpenClaim := { program := "ybulkxkk", sum := "fb87b755d04b5a466af600750cdf10b33564a0c2dfe2f7b6907b530ce54d20b6", func := "example.com/orderwise/orderwise.LawS1180BExact", spec := "lawS1180BExact", apart := false }
def LawS1180BExactSaid : Prop := lawS1180BExactRow.holds Yba.pinned (OpenSpec.ofChange lawS1180BExactSpec)

/-- ITS FALSE NEIGHBOUR: 'it returns false'. Refute it at one input. -/
def lawS1180BExactWrong : ChangeSpec := { name := "lawS1180BExact", fn := fun _ => fun
  | [d1, d2, d3] => { results := [.lit (.bool false)], args := [d1, d2, d3] }
  | _ => none }
def LawS1180BExactWrongFalsely : Prop := lawS1180BExactRow.holds Yba.pinned (OpenSpec.ofChange lawS1180BExactWrong)

end Rows
end Go.Proofs.Ybulkxkk
