/-
  No cell of these rows narrows 'for every input' (looked for: loops, veiled, ifaces, maps, wideKeys, modest, calm, conditions, laid).
  DERIVED. THE GIVEN ROWS OF THIS SEAT. 1 by the template 'for every input the law returns true; each argument reads behind the call as it read before'; 0 by the template 'total and deterministic' (their statements: YbulkxjwTotals.lean).
  GIVEN WITH THE SEED: the statements are not yours to turn. If you find one false, say at which input.
  Laid BY PROGRAM, IN A SANDBOX (cutbox-rows.mjs): the forced cells as the released guide's own fill.sh prints them over the translation 6c3537b64fbdc088… (all of the seat's roots in one cut). By AI agents, Wed Nov 11 2026. No macro, syntax, notation, axiom, sorry.
-/
import Derived.Test.YbulkxjwChecked
import GoSem.Claim
import GoSem.ClaimJoined
import GoSem.ClaimMapViews
import Derived.JoinedTies
import Derived.KernelRfl
namespace Go.Proofs.Ybulkxjw
/- THE CELL 'sum', in the pinned program and in every row, IS THE sha256 OF THE DUMP (.gsa) THAT YbulkxjwProg.lean LOADS. Nothing in Lean hashes anything: it is a label: what it is worth is what the hold of that sum in a sandbox is worth. -/
noncomputable def Yba.pinned : Pinned := { name := "ybulkxjw", sum := "6c3537b64fbdc0886f71ea8143fa2ae626809d728df2de751f721f99685203d1", checked := Yba.checked }
namespace Rows
def none {H : Type} : Left H := { results := [], args := [] }

/-- 'bloomroute.LawS1179BHeard': WHATEVER THE INPUT: true; the input reads as it did. -/
def lawS1179BHeardSpec : ChangeSpec := { name := "lawS1179BHeard", fn := fun _ => fun
  | [d1, d2, d3, d4, d5] => { results := [.lit (.bool true)], args := [d1, d2, d3, d4, d5] }
  | _ => none }
def lawS1179BHeardRow : OpenClaim := { program := "ybulkxjw", sum := "6c3537b64fbdc0886f71ea8143fa2ae626809d728df2de751f721f99685203d1", func := "example.com/bloomroute/bloomroute.LawS1179BHeard", spec := "lawS1179BHeard", unfollowed := true, recurses := true, plainKeys := false, apart := false }
def LawS1179BHeardSaid : Prop := lawS1179BHeardRow.holds Yba.pinned (OpenSpec.ofChange lawS1179BHeardSpec)

/-- ITS FALSE NEIGHBOUR: 'it returns false'. Refute it at one input. -/
def lawS1179BHeardWrong : ChangeSpec := { name := "lawS1179BHeard", fn := fun _ => fun
  | [d1, d2, d3, d4, d5] => { results := [.lit (.bool false)], args := [d1, d2, d3, d4, d5] }
  | _ => none }
def LawS1179BHeardWrongFalsely : Prop := lawS1179BHeardRow.holds Yba.pinned (OpenSpec.ofChange lawS1179BHeardWrong)

end Rows
end Go.Proofs.Ybulkxjw
