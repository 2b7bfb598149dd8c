/-
  What both rows of this seat want: the closed facts, the sentinels out of 'laid', one start that fits.
-/
import Derived.Test.YbulkxjwFmtLawA
import Derived.Test.YbulkxjwFmtTie
import Derived.Test.YbulkxjwFmtCards
import Derived.ProofKit
import Derived.OpenShut
import Derived.ChangeOld
import Derived.SizedLaws
import Derived.Stop.JoinedTold
import Derived.Stop.JoinedAt
import Derived.Stop.LaidErr
import Derived.SevenTiedAt
namespace Go.Proofs.YbulkxjwFmt
open Go.ChangeShapes Go.WideShapes Go.ChangeAt Go.RowKit Go.Kit
open Go.Extern.Stop Go.Stop Go.Extern

theorem own : ownKnob Ybaf.prog.godebug = none := by kernel_rfl
theorem laidOut : laidOutB Ybaf.prog = true := by kernel_rfl
theorem laidOutP : laidOutB Ybaf.pinned.checked.prog = true := by kernel_rfl
theorem stopKnobs : Ybaf.pinned.checked.prog.stopKnobs = [] := by kernel_rfl
theorem quiet (os : Os) : Stop.quiet Ybaf.pinned.checked.prog os := by
  intro k hk
  rw [stopKnobs] at hk
  cases hk
theorem cells40 : Ybaf.prog.cellsOf 40 = 1 := by kernel_rfl
theorem cells9 : Ybaf.prog.cellsOf 9 = 1 := by kernel_rfl
theorem cells5 : Ybaf.prog.cellsOf 5 = 1 := by kernel_rfl
theorem row38 (u : TypeId) (h : Ybaf.prog.typeName? 3 u = some starName) : u = 38 :=
  typeName_ptr_named (nm := "errors.errorString") (by kernel_rfl) (by kernel_rfl) (by decide) u (h.trans (congrArg some (by kernel_rfl)))

/-- The three variables' names, as the given row lists them. -/
def v0 : String := Rows.lawS1179AModelRow.named.getD 0 ""
def v1 : String := Rows.lawS1179AModelRow.named.getD 1 ""
def v2 : String := Rows.lawS1179AModelRow.named.getD 2 ""
theorem g0 : Ybaf.prog.globalNamed v0 = some 0 := by kernel_rfl
theorem g1 : Ybaf.prog.globalNamed v1 = some 1 := by kernel_rfl
theorem g2 : Ybaf.prog.globalNamed v2 = some 2 := by kernel_rfl
theorem gt0 : (Ybaf.prog.globals[0]?).map (·.type) = some 26 := by kernel_rfl
theorem gt1 : (Ybaf.prog.globals[1]?).map (·.type) = some 26 := by kernel_rfl
theorem gt2 : (Ybaf.prog.globals[2]?).map (·.type) = some 26 := by kernel_rfl

def text0 : List UInt8 := [97, 32, 118, 97, 114, 105, 110, 116, 32, 99, 117, 116, 32, 115, 104, 111, 114, 116]
def text1 : List UInt8 := [97, 32, 118, 97, 114, 105, 110, 116, 32, 108, 111, 110, 103, 101, 114, 32, 116, 104, 97, 110, 32, 54, 52, 32, 98, 105, 116, 115]
def text2 : List UInt8 := [97, 32, 118, 97, 114, 105, 110, 116, 32, 110, 111, 116, 32, 105, 110, 32, 105, 116, 115, 32, 115, 104, 111, 114, 116, 101, 115, 116, 32, 102, 111, 114, 109]

/-- What the rows list, in these names. -/
def laid3 : List (String × DataW Unit) := [(v0, .iface starName (.ptr (.agg [.lit (.string text0)]))), (v1, .iface starName (.ptr (.agg [.lit (.string text1)]))), (v2, .iface starName (.ptr (.agg [.lit (.string text2)])))]
theorem laidA : Rows.lawS1179AModelRow.laid = laid3 := by kernel_rfl
theorem laidB : Rows.lawS1179ARoundTripRow.laid = laid3 := by kernel_rfl
theorem varsA : Rows.lawS1179AModelSpec.vars = [v0, v1, v2] := by kernel_rfl
theorem varsB : Rows.lawS1179ARoundTripSpec.vars = [v0, v1, v2] := by kernel_rfl

/-- THE SENTINELS OUT OF 'laid'. -/
theorem sents {W : World} (h : laidMet Ybaf.prog laid3 W) : ∃ a0 a1 a2, W.var? Ybaf.prog v0 = some #[.iface 38 (.pointer (some a0))] ∧ W.var? Ybaf.prog v1 = some #[.iface 38 (.pointer (some a1))] ∧ W.var? Ybaf.prog v2 = some #[.iface 38 (.pointer (some a2))] ∧ Sent W := by
  obtain ⟨a0, s0, hv0, hc0, _, _⟩ := laid_sentinel h g0 gt0 Ybaf.underlying26 row38 Ybaf.underlying38 Ybaf.underlying40 rfl rfl Ybaf.underlying9 cells40 cells9
  obtain ⟨a1, s1, hv1, hc1, _, _⟩ := laid_sentinel h.tail g1 gt1 Ybaf.underlying26 row38 Ybaf.underlying38 Ybaf.underlying40 rfl rfl Ybaf.underlying9 cells40 cells9
  obtain ⟨a2, s2, hv2, hc2, _, _⟩ := laid_sentinel h.tail.tail g2 gt2 Ybaf.underlying26 row38 Ybaf.underlying38 Ybaf.underlying40 rfl rfl Ybaf.underlying9 cells40 cells9
  refine ⟨a0, a1, a2, hv0, hv1, hv2, fun i hi => ?_⟩
  rcases (show i = 0 ∨ i = 1 ∨ i = 2 by omega) with rfl | rfl | rfl
  · exact ⟨a0, s0, by simpa using World.var?_cell g0 hv0 0, hc0⟩
  · exact ⟨a1, s1, by simpa using World.var?_cell g1 hv1 0, hc1⟩
  · exact ⟨a2, s2, by simpa using World.var?_cell g2 hv2 0, hc2⟩

/-- Three named variables of an interface type, read again as tokens. -/
theorem vars_read3 {H : Type} (enc : TypeId × Value → H) {W : World} {x0 x1 x2 : Value} (h0 : W.var? Ybaf.prog v0 = some #[x0]) (i0 : IsIface x0) (h1 : W.var? Ybaf.prog v1 = some #[x1]) (i1 : IsIface x1) (h2 : W.var? Ybaf.prog v2 = some #[x2]) (i2 : IsIface x2) (sp : Nat → Bool) :
    DataW.TrodVars enc Ybaf.prog W sp [v0, v1, v2] [tok enc x0, tok enc x1, tok enc x2] [.cell 0 0, .cell 1 0, .cell 2 0] :=
  ⟨0, 26, #[x0], 1, [], [.cell 1 0, .cell 2 0], g0, gt0, h0, trod_held Ybaf.underlying26 i0 0, ⟨1, 26, #[x1], 1, [], [.cell 2 0], g1, gt1, h1, trod_held Ybaf.underlying26 i1 0, ⟨2, 26, #[x2], 1, [], [], g2, gt2, h2, trod_held Ybaf.underlying26 i2 0, rfl, rfl⟩, rfl⟩, rfl⟩

/-- Behind a call that turns nothing that was there a variable holds what it held. -/
theorem var_below {W W' : World} (hb : Below W.heap.size W W') {n : String} {g : Nat} (hg : Ybaf.prog.globalNamed n = some g) {cs : Array Value} (h : W.var? Ybaf.prog n = some cs) : W'.var? Ybaf.prog n = some cs := by
  unfold World.var? at h ⊢
  simp only [hg, Option.bind_some] at h ⊢
  have hlt : g < W.heap.size := by
    rcases Nat.lt_or_ge g W.heap.size with h' | h'
    · exact h'
    · simp [Array.getElem?_eq_none h'] at h
  rw [hb.block g hlt]
  exact h

/-- One start that fits: the settled world with three blocks more, an errors.errorString each; the variables hold pointers to them. -/
def lay (w0 : World) : World :=
  { w0 with heap := ((w0.heap.modify 0 fun
      | .cells _ t frozen => .cells #[.iface 38 (.pointer (some ⟨8, 0, none⟩))] t frozen
      | o => o).modify 1 fun
      | .cells _ t frozen => .cells #[.iface 38 (.pointer (some ⟨9, 0, none⟩))] t frozen
      | o => o).modify 2 fun
      | .cells _ t frozen => .cells #[.iface 38 (.pointer (some ⟨10, 0, none⟩))] t frozen
      | o => o }
def three : Input := ⟨#[.cells #[.string ⟨text0.toArray⟩] 40, .cells #[.string ⟨text1.toArray⟩] 40, .cells #[.string ⟨text2.toArray⟩] 40], #[], []⟩
theorem lay_met (os : Os) (args : Array Value) : laidMet Ybaf.prog laid3 ((lay (World.holding Ybaf.prog os three)).forCall (fun _ _ => 0) ⟨#[], args, []⟩).memory :=
  laidMet_of_run (ps := [.cell 0 0, .cell 8 0, .cell 1 0, .cell 9 0, .cell 2 0, .cell 10 0]) 8 (by kernel_rfl) (by kernel_rfl) (by kernel_rfl)

/-- A slice of bytes that came in, opened. -/
theorem open_bytes {H : Type} {enc : TypeId × Value → H} {W : World} {fuel : Nat} {a : Option Addr} {len cap : Nat} {x : DataW H × List MemPlace}
    (h : DataW.trod enc Ybaf.prog W 0 (fun _ => true) true fuel 22 [.slice a len cap] = some x) : len ≤ maxLen ∧ ∃ l, Bytes W a len l := by
  rcases open_ints Ybaf.underlying22 Ybaf.underlying5 cells5 h with ⟨hcs, _⟩ | ⟨ad, len', cap', zs, hcs, _, hl, hm, hz, _, hcell, hwz⟩
  · simp at hcs
    obtain ⟨rfl, rfl, rfl⟩ := hcs
    exact ⟨by unfold maxLen; omega, [], rfl, fun h => absurd h (Nat.lt_irrefl _)⟩
  · simp at hcs
    obtain ⟨rfl, rfl, rfl⟩ := hcs
    have hz3 : zs.length = cap := by simpa using hz
    refine ⟨Nat.le_trans hl hm, (zs.take len).map (fun z => z.toNat.toUInt8), by simp; omega, fun _ => ⟨ad, rfl, fun j v hv => ?_⟩⟩
    rw [Lib.byteCells, List.map_map, List.getElem?_map] at hv
    have hj : j < len := by
      rcases Nat.lt_or_ge j len with h1 | h1
      · exact h1
      · rw [List.getElem?_eq_none (by simp; omega)] at hv; cases hv
    have hjz : j < zs.length := by omega
    rw [hcell j hjz]
    rw [List.getElem?_take_of_lt hj, List.getElem?_eq_getElem hjz] at hv
    simp only [Option.map_some, Function.comp, Option.some.injEq] at hv
    subst hv
    have hb := bounds_u8 (hwz zs[j] (List.getElem_mem hjz))
    have e1 : (zs[j].toNat.toUInt8).toNat = zs[j].toNat := by
      show zs[j].toNat % 256 = _
      omega
    rw [e1, List.getD_eq_getElem?_getD, List.getElem?_eq_getElem hjz, Int.toNat_of_nonneg hb.1]
    rfl

end Go.Proofs.YbulkxjwFmt
