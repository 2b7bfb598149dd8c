import Derived.Test.YbulkxjwMap
import Derived.Deep.QuietTactic
import Derived.BigQuiet
import Derived.WalkSmall
namespace Go.Proofs.Ybulkxjw
open Go.RowKit Go.Maps

set_option maxRecDepth 100000 in
theorem equal_none (a : Option Addr) (c : Nat) (w : World) :
    Calls Yba.prog 6 #[.slice a 0 c, .slice a 0 c] w fun e w' => e = .returned (.bool true) ∧ Below w.heap.size w w' := by
  go_enter Yba.func6, Yba.ntmps6
  go_wp2
  refine wp_loop_rounds 1 ?_
  rw [rounds_succ]
  go_wp2
  go_ret
  exact ⟨rfl, Below.refl _ _⟩

set_option maxRecDepth 100000 in
theorem equal_self (g n c : Nat) (hn : n ≤ maxLen) (xs : List Int) (hx : xs.length = n) (w : World) (hc : ∀ j, j < n → w.cell? ⟨g, j, none⟩ = some (.int .u64 (xs.getD j 0))) (hg : g < w.heap.size) :
    Calls Yba.prog 6 #[.slice (some ⟨g, 0, none⟩) n c, .slice (some ⟨g, 0, none⟩) n c] w fun e w' => e = .returned (.bool true) ∧ Below w.heap.size w w' := by
  unfold maxLen at hn
  go_enter Yba.func6, Yba.ntmps6
  go_wp2
  go_loopw [13] (fun i wr => ∃ k : Nat, k ≤ n ∧ i = .int .i64 k ∧ Below w.heap.size w wr)
    (fun i _ => n - (intOf i).toNat)
  case atStart => exact ⟨0, Nat.zero_le _, rfl, Below.refl _ _⟩
  case round =>
    obtain ⟨k, hk, rfl, hbel⟩ := hrel
    by_cases hkn : k < n
    · have hcx : wr.cell? ⟨g, k, none⟩ = some (.int .u64 (xs.getD k 0)) := (hbel.cell (by exact hg)).trans (hc k hkn)
      obtain ⟨x, hxx⟩ : ∃ x, x = xs.getD k 0 := ⟨_, rfl⟩
      rw [← hxx] at hcx
      clear hxx
      have hki : (k : Int) < (n : Int) := by omega
      clear hc hx
      go_wp2
      go_quiet (fail)
      go_wp2
      go_roundw
      case rel => exact ⟨k + 1, by omega, by go_num, below_drewN hbel _⟩
      case measure => simp [intOf]; omega
    · go_wp2
      go_ret
      exact ⟨rfl, hbel⟩

/-- A row of words against itself. -/
theorem equal_row (base n : Nat) (v : Value) (zs : List Int) (w : World) (h : w.ownsRow base 56 1 v n (zs.map (Value.int .u64))) :
    Calls Yba.prog 6 #[v, v] w fun e w' => e = .returned (.bool true) ∧ Below w.heap.size w w' := by
  have hl : zs.length = n := by have := h.1; simp at this; omega
  rcases h.2 with ⟨rfl, rfl⟩ | ⟨g, cap, cur, rfl, hb, hg, hn, hm, hs, ht⟩
  · exact equal_none none 0 w
  · refine equal_self g n cap (by omega) zs hl w (fun j hj => ?_) (Array.getElem?_eq_some_iff.1 hg).1
    rw [World.ownsRow.cellAt h j (by omega)]
    have hj' : j < zs.length := by omega
    simp [hj']
end Go.Proofs.Ybulkxjw
