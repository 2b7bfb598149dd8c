/-
  No cell of these rows narrows 'for every input' (looked for: loops, veiled, ifaces, maps, wideKeys, modest, calm, conditions, laid).
  DERIVED. THE GIVEN ROWS OF THIS SEAT. 1 by the template 'for every input the law returns true; each argument reads behind the call as it read before'; 0 by the template 'total and deterministic' (their statements: YbulkxkyTotals.lean).
  GIVEN WITH THE SEED: the statements are not yours to turn. If you find one false, say at which input.
  Laid BY PROGRAM, IN A SANDBOX (cutbox-rows.mjs): the forced cells as the released guide's own fill.sh prints them over the translation 77debf8181de1153… (all of the seat's roots in one cut). By AI agents, Wed Nov 11 2026. No macro, syntax, notation, axiom, sorry.
-/
import Derived.Test.YbulkxkyChecked
import GoSem.Claim
import GoSem.ClaimJoined
import GoSem.ClaimMapViews
import Derived.JoinedTies
import Derived.KernelRfl
namespace Go.Proofs.Ybulkxky
/- THE CELL 'sum', in the pinned program and in every row, IS THE sha256 OF THE DUMP (.gsa) THAT YbulkxkyProg.lean LOADS. Nothing in Lean hashes anything: it is a label: what it is worth is what the hold of that sum in a sandbox is worth. -/
noncomputable def Yba.pinned : Pinned := { name := "ybulkxky", sum := "77debf8181de1153bfbf5743ff5e6fda0f92320104748fcc3b7cdf7c2149f7dd", checked := Yba.checked }
namespace Rows
def none {H : Type} : Left H := { results := [], args := [] }

/-- 'wire.LawS1181AModel': WHATEVER THE INPUT: true; the input reads as it did. -/
def lawS1181AModelSpec : ChangeSpec := { name := "lawS1181AModel", fn := fun _ => fun
  | [d1, d2] => { results := [.lit (.bool true)], args := [d1, d2] }
  | _ => none }
def lawS1181AModelRow : OpenClaim := { program := "ybulkxky", sum := "77debf8181de1153bfbf5743ff5e6fda0f92320104748fcc3b7cdf7c2149f7dd", func := "example.com/tallow/tallow/internal/wire.LawS1181AModel", spec := "lawS1181AModel", apart := false }
def LawS1181AModelSaid : Prop := lawS1181AModelRow.holds Yba.pinned (OpenSpec.ofChange lawS1181AModelSpec)

/-- ITS FALSE NEIGHBOUR: 'it returns false'. Refute it at one input. -/
def lawS1181AModelWrong : ChangeSpec := { name := "lawS1181AModel", fn := fun _ => fun
  | [d1, d2] => { results := [.lit (.bool false)], args := [d1, d2] }
  | _ => none }
def LawS1181AModelWrongFalsely : Prop := lawS1181AModelRow.holds Yba.pinned (OpenSpec.ofChange lawS1181AModelWrong)

end Rows
end Go.Proofs.Ybulkxky
