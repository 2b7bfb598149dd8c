/-
  countViews and the law's own product: both come to 'cnt'.
-/
import Derived.Test.YbulkxkkRows
import Derived.WalkKit
import Derived.WalkSpells
import Derived.WalkLawsBesides
import Derived.WalkSmall
import Derived.Deep.OwnRows
import Derived.Deep.QuietTactic
import Derived.BigQuiet
namespace Go.Proofs.Ybulkxkk
open Go.RowKit

/-- The product of f from q on, m factors at the most, cut short once it is above 512. -/
def cnt (f : Nat → Int) : Nat → Nat → Int → Int
  | 0, _, p => p
  | m + 1, q, p => if 512 < p * f q then p * f q else cnt f m (q + 1) (p * f q)

theorem mul_small {p x : Int} (hp0 : 0 ≤ p) (hp : p ≤ 512) (hx0 : 0 ≤ x) (hx : x ≤ 16) : 0 ≤ p * x ∧ p * x ≤ 8192 := by
  refine ⟨Int.mul_nonneg hp0 hx0, ?_⟩
  have h1 : p * x ≤ 512 * 16 := Int.mul_le_mul hp hx hx0 (by omega)
  omega

theorem cnt_bounds (f : Nat → Int) (hf : ∀ q, 0 ≤ f q ∧ f q ≤ 16) : ∀ m q p, 0 ≤ p → p ≤ 512 → 0 ≤ cnt f m q p ∧ cnt f m q p ≤ 8192
  | 0, _, p, h0, h1 => by simp only [cnt]; omega
  | m + 1, q, p, h0, h1 => by
    have hb := mul_small h0 h1 (hf q).1 (hf q).2
    rw [cnt]
    split
    · exact hb
    · exact cnt_bounds f hf m (q + 1) _ hb.1 (by omega)

set_option maxRecDepth 100000 in
set_option maxHeartbeats 400000 in
theorem count_calls (sb RB TB EB nr pi n : Nat) (a : Nat → Option Addr) (c : Nat → Nat) (L E : Nat → Nat) (hL : ∀ q, L q ≤ 15) (hE : ∀ q, E q ≤ L q + 1) (hpi : pi < nr) (hn : n ≤ 1024) (w : World)
    (h26 : w.cell? ⟨sb, 26, none⟩ = some (.slice (some ⟨RB, 0, none⟩) nr nr)) (hR : w.cell? ⟨RB, pi, none⟩ = some (.slice (some ⟨EB, 0, none⟩) n n)) (h24 : w.cell? ⟨sb, 24, none⟩ = some (.slice (some ⟨TB, 0, none⟩) n n))
    (hT : ∀ q, q < n → w.cell? ⟨TB, q, none⟩ = some (.slice (a q) (L q) (c q))) (hEc : ∀ q, q < n → w.cell? ⟨EB, q, none⟩ = some (.int .i64 (E q))) :
    Calls Yba.prog 6 #[.pointer (some ⟨sb, 0, none⟩), .int .i64 pi] w fun e w' => e = .returned (.int .i64 (cnt (fun q => (L q : Int) - (E q : Int) + 1) n 0 1)) ∧ w = w' := by
  generalize hR0 : cnt (fun q => (L q : Int) - (E q : Int) + 1) n 0 1 = R
  have HR : Hid _ := hR0
  clear hR0
  have hpr : (pi : Int) < (nr : Int) := by omega
  go_enter Yba.func6, Yba.ntmps6
  go_wp2
  go_loop [5, 17] (fun p i => ∃ (k : Nat) (P : Int), k ≤ n ∧ i = .int .i64 k ∧ p = .int .i64 P ∧ 0 ≤ P ∧ P ≤ 512 ∧ Hid (cnt (fun q => (L q : Int) - (E q : Int) + 1) (n - k) k P = R))
    (fun _ i => n - (intOf i).toNat)
  case atStart => exact ⟨0, 1, by omega, rfl, rfl, by omega, by omega, HR.out⟩
  case round =>
    obtain ⟨k, P, hk, rfl, rfl, hP0, hP1, HC⟩ := hrel
    clear HR
    by_cases hkn : k < n
    · have hki : (k : Int) < (n : Int) := by omega
      have ht := hT k hkn
      have he := hEc k hkn
      have l1 := hL k
      have e1 := hE k
      have hstep : n - k = (n - (k + 1)) + 1 := by omega
      have hC : cnt (fun q => (L q : Int) - (E q : Int) + 1) (n - k) k P = R := HC.out
      rw [hstep, cnt] at hC
      have hb := mul_small hP0 hP1 (x := (L k : Int) - (E k : Int) + 1) (by omega) (by omega)
      have HC2 : Hid _ := hC
      clear hC hstep HC hT hEc hL hE
      generalize L k = lk at *
      generalize E k = ek at *
      go_wp2
      · have hgt : 512 < P * ((lk : Int) - (ek : Int) + 1) := by assumption
        have hC := HC2.out
        rw [if_pos hgt] at hC
        go_ret
        exact ⟨by rw [← hC]; rfl, rfl⟩
      · have hle : P * ((lk : Int) - (ek : Int) + 1) ≤ 512 := by assumption
        have hC := HC2.out
        rw [if_neg (by omega)] at hC
        go_round
        case rel => exact ⟨k + 1, _, by omega, by go_num, rfl, hb.1, hle, hC⟩
        case measure => simp [intOf]; omega
    · go_wp2
      go_ret
      have hC := HC.out
      rw [show n - k = 0 by omega] at hC
      exact ⟨by rw [← hC]; rfl, rfl⟩

set_option maxRecDepth 100000 in
set_option maxHeartbeats 400000 in
theorem model_calls (LB EB n : Nat) (L E : Nat → Nat) (hL : ∀ q, L q ≤ 15) (hE : ∀ q, E q ≤ L q + 1) (hn : n ≤ 1024) (w : World)
    (hT : ∀ q, q < n → w.cell? ⟨LB, q, none⟩ = some (.int .i64 (L q))) (hEc : ∀ q, q < n → w.cell? ⟨EB, q, none⟩ = some (.int .i64 (E q))) :
    Calls Yba.prog 7 #[.slice (some ⟨LB, 0, none⟩) n n, .slice (some ⟨EB, 0, none⟩) n n] w fun e w' => e = .returned (.int .i64 (cnt (fun q => (L q : Int) - (E q : Int) + 1) n 0 1)) ∧ ∃ m, w' = w.drewN m := by
  generalize hR0 : cnt (fun q => (L q : Int) - (E q : Int) + 1) n 0 1 = R
  have HR : Hid _ := hR0
  clear hR0
  go_enter Yba.func7, Yba.ntmps7
  go_wp2
  go_loopw [5, 6] (fun p i wr => ∃ (k : Nat) (P : Int), k ≤ n ∧ i = .int .i64 k ∧ p = .int .i64 P ∧ 0 ≤ P ∧ P ≤ 512 ∧ Hid (cnt (fun q => (L q : Int) - (E q : Int) + 1) (n - k) k P = R) ∧ ∃ m, wr = w.drewN m)
    (fun _ i _ => n - (intOf i).toNat)
  case atStart => exact ⟨0, 1, by omega, rfl, rfl, by omega, by omega, HR.out, 0, rfl⟩
  case round =>
    obtain ⟨k, P, hk, rfl, rfl, hP0, hP1, HC, m, rfl⟩ := hrel
    clear HR
    by_cases hkn : k < n
    · have hki : (k : Int) < (n : Int) := by omega
      have ht := hT k hkn
      have he := hEc k hkn
      have l1 := hL k
      have e1 := hE k
      have hstep : n - k = (n - (k + 1)) + 1 := by omega
      have hC : cnt (fun q => (L q : Int) - (E q : Int) + 1) (n - k) k P = R := HC.out
      rw [hstep, cnt] at hC
      have hb := mul_small hP0 hP1 (x := (L k : Int) - (E k : Int) + 1) (by omega) (by omega)
      have HC2 : Hid _ := hC
      clear hC hstep HC hT hEc hL hE
      generalize L k = lk at *
      generalize E k = ek at *
      go_wp2
      go_quiet (fail)
      go_wp2
      · have hgt : 512 < P * ((lk : Int) - (ek : Int) + 1) := by assumption
        have hC := HC2.out
        rw [if_pos hgt] at hC
        go_ret
        exact ⟨by rw [← hC]; rfl, _, rfl⟩
      · have hle : P * ((lk : Int) - (ek : Int) + 1) ≤ 512 := by assumption
        have hC := HC2.out
        rw [if_neg (by omega)] at hC
        go_roundw
        case rel => exact ⟨k + 1, _, by omega, by go_num, rfl, hb.1, hle, hC, _, rfl⟩
        case measure => simp [intOf]; omega
    · go_wp2
      go_ret
      have hC := HC.out
      rw [show n - k = 0 by omega] at hC
      exact ⟨by rw [← hC]; rfl, m, rfl⟩
end Go.Proofs.Ybulkxkk
