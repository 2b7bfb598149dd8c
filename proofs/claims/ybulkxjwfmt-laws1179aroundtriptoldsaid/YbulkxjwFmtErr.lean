/-
  fmt.Errorf of the one verb v over the stop fmt.errorf, err an error of errors.New's make: SOME new error comes back, never nil. What its text is does not matter here.
-/
import Derived.Test.YbulkxjwFmtRows
import Derived.WalkKit
import Derived.WalkSpells
import Derived.Stop.CallBack
import Derived.Stop.IfaceNil
namespace Go.Proofs.YbulkxjwFmt
open Go.RowKit Go.Extern.Stop Go.Stop Go.Extern

theorem call14 (args : Array Value) (w : World) : (callFunc 14 args).run Ybaf.prog w = ((FmtStop.errorf #[9, 47] #[26] args).run Ybaf.prog w).andThen fun v w' => .ok (.value v) w' :=
  run_callFunc_extern Ybaf.func14 (by kernel_rfl) (by kernel_rfl) (by kernel_rfl) (by kernel_rfl) args w
theorem guard14 (name : String) (w : World) : (FmtStop.guard name).run Ybaf.prog w = .ok () w := by kernel_rfl
theorem fmtV (w : World) : (FmtDoors.printed ⟨#[37, 118]⟩ 1).run Ybaf.prog w = .ok [(0, 118, false)] w := by kernel_rfl
theorem ptr38 (w : World) : (FmtStop.ptrTo "errors.errorString").run Ybaf.prog w = .ok 38 w := by kernel_rfl
theorem elem38 (w : World) : (elemOf 38).run Ybaf.prog w = .ok 40 w := by kernel_rfl
/-- The name of the sentinels' dynamic type, as the given rows spell it. -/
def starName : String := match (Rows.laid_example_com_bloomroute_bloomroute_errVarintCut : DataW Unit) with
  | .iface n _ => n
  | _ => ""
def plain38 : List UInt8 := 14 :: FmtStop.pack starName.toUTF8.data.toList
theorem opPlain38 (name : String) (a : Addr) (s : ByteArray) (w : World) (hc : w.cell? a = some (.string s)) :
    (FmtStop.operand name true 118 false (.iface 38 (.pointer (some a)))).run Ybaf.prog w = .ok (plain38, s.data.toList) w := by
  have h1 : (typeStr 38).run Ybaf.prog w = .ok starName w := by kernel_rfl
  have d2 : Ybaf.t38.desc = .pointer 40 := rfl
  have d3 : Ybaf.t40.desc = .named "errors.errorString" 39 := rfl
  simp [FmtStop.operand, h1, d2, d3, run_load, hc, plain38]

set_option maxRecDepth 100000 in
set_option maxHeartbeats 400000 in
theorem errorf_v (vb : Nat) (a : Addr) (s : ByteArray) (w : World) (h0 : w.cell? ⟨vb, 0, none⟩ = some (.iface 38 (.pointer (some a)))) (hs : w.cell? a = some (.string s)) :
    Calls Ybaf.prog 13 #[.string ⟨#[37, 118]⟩, .slice (some ⟨vb, 0, none⟩) 1 1] w fun e w' => e = .returned (.iface 38 (.pointer (some ⟨w.heap.size, 0, none⟩))) ∧ Below w.heap.size w w' := by
  have hop := opPlain38 "fmt.errorf" a s w hs
  have k1 := call14
  have k2 := guard14
  have k3 := fmtV
  have k4 := ptr38
  have k5 := elem38
  go_enter Ybaf.func13, Ybaf.ntmps13
  go_wp2
  go_ret
  exact ⟨rfl, ((Below.refl _ w).alloc (Nat.le_refl _) _).drew⟩
end Go.Proofs.YbulkxjwFmt
