import Derived.Test.YbulkxjwMap
namespace Go.Proofs.Ybulkxjw
open Go.RowKit Go.Maps

theorem wf_small {a : Int} (h0 : 0 ≤ a) (h1 : a < 1000) : (Lit.int .i64 a).wf = true := WalkArith.wf_i64 (by omega)

set_option maxRecDepth 100000 in
set_option maxHeartbeats 400000 in
theorem decoy (q : Int) (hq0 : 0 ≤ q) (hq : q < 4) (w : World) :
    Calls Yba.prog 4 #[.int .i64 q] w fun e w' => (∃ a, e = .returned (.pointer (some a))) ∧ Below w.heap.size w w' := by
  have hmm := @run_makeMap Yba.prog
  go_enter Yba.func4, Yba.ntmps4
  go_wp2
  go_loopw [4] (fun a wr => ∃ k : Nat, k ≤ 4 ∧ a = .int .i64 k ∧ (∃ f, IsM wr w.heap.size k (.map none) f) ∧ Below w.heap.size w wr)
    (fun a _ => 4 - (intOf a).toNat)
  case atStart => exact ⟨0, by omega, rfl, ⟨_, isM_made _ _⟩, (Below.refl _ _).alloc (Nat.le_refl _) _⟩
  case round =>
    rename World => wo
    obtain ⟨k, hk, rfl, ⟨f, hf⟩, hbel⟩ := hrel
    by_cases hk4 : k < 4
    · have hd : decide ((k : Int) < 4) = true := decide_eq_true (by omega)
      go_wp2
      have hin := isM_made wo (.slice none 0 0)
      have hout : IsM (wo.alloc (.map #[] 0)) w.heap.size k (.map none) f := hf.kept (World.grownBy_alloc _ _ none) (by simp)
      have hne : w.heap.size ≠ wo.heap.size := by have := hf.lt; omega
      have hbel1 := hbel.alloc hbel.size (.map #[] 0)
      have hws := hbel.size
      go_loopw [6] (fun b w2 => ∃ j : Nat, j ≤ 4 ∧ b = .int .i64 j ∧ (∃ g, IsM w2 wo.heap.size j (.slice none 0 0) g) ∧ IsM w2 w.heap.size k (.map none) f ∧ Below w.heap.size w w2)
        (fun b _ => 4 - (intOf b).toNat)
      case atStart => exact ⟨0, by omega, rfl, ⟨_, hin⟩, hout, hbel1⟩
      case round =>
        clear hin hout hbel1 hf hbel
        obtain ⟨j, hj, rfl, ⟨g, hg⟩, hout, hbel⟩ := hrel
        go_wp2_with (first
          | (at_mapUpdate; refine wpList_store _ rfl _ _ _ 28 25 rfl Yba.underlying28 wo.heap.size j (.slice none 0 0) g j _ rfl rfl rfl ?_ ?_ ?_ ?_)
          | (at_mapUpdate; refine wpList_store _ rfl _ _ _ 23 28 rfl Yba.underlying23 w.heap.size k (.map none) f k _ rfl rfl rfl ?_ ?_ ?_ ?_)
          | go_in)
        · exact hg.kept (World.grownBy_alloc _ _ none) (by simp)
        · unfold maxLen; omega
        · exact wf_small (by omega) (by omega)
        · intro w3 hm3 hg3
          have hout3 : IsM w3 w.heap.size k (.map none) f := (hout.kept (World.grownBy_alloc _ _ none) (by simp)).kept hg3 (by simp [hne])
          have hbel3 : Below w.heap.size w w3 := (hbel.alloc hbel.size _).grown hg3 (by have := hbel.size; simp; omega) (fun x hx => by cases hx; exact hws)
          clear hg3 hout hg
          go_wp2
          go_roundw
          case rel => exact ⟨j + 1, by omega, by go_num, ⟨_, hm3⟩, hout3, hbel3⟩
          case measure => simp [intOf]; omega
        · exact hout
        · unfold maxLen; omega
        · exact wf_small (by omega) (by omega)
        · intro w3 hm3 hg3
          have hbel3 : Below w.heap.size w w3 := hbel.grown hg3 hbel.size (fun x hx => by cases hx; exact Nat.le_refl _)
          clear hg3 hout hg
          go_wp2
          go_roundw
          case rel => exact ⟨k + 1, by omega, by go_num, ⟨_, hm3⟩, hbel3⟩
          case measure => simp [intOf]; omega
    · go_wp2
      go_ret
      exact ⟨⟨_, rfl⟩, ((hbel.alloc (by simp [hbel.size]) _).alloc (by have := hbel.size; simp; omega) _).alloc (by have := hbel.size; simp; omega) _⟩
end Go.Proofs.Ybulkxjw
