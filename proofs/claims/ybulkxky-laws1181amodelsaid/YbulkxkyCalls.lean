/-
  RepeatedType and the law's own search: both come to 'rep'.
-/
import Derived.Test.YbulkxkyMap
import Derived.WalkSpells
import Derived.WalkLawsBesides
import Derived.WalkSmall
import Derived.Deep.OwnRows
import Derived.Deep.QuietTactic
import Derived.BigQuiet
namespace Go.Proofs.Ybulkxky
open Go.RowKit Go.Maps

/-- Does a stand among the first k? -/
def among (x : Nat → Nat) (k : Nat) (a : Int) : Bool := (List.range k).any fun i => (x i : Int) == a
/-- The first type, from place j on, that stands earlier. -/
def rep (x : Nat → Nat) : Nat → Nat → Nat × Bool
  | 0, _ => (0, false)
  | m + 1, j => if among x j (x j) = true then (x j, true) else rep x m (j + 1)

theorem among_zero (x : Nat → Nat) (a : Int) : among x 0 a = false := rfl
theorem among_succ (x : Nat → Nat) (k : Nat) (a : Int) : among x (k + 1) a = (among x k a || ((x k : Int) == a)) := by
  simp [among, List.range_succ]

theorem zero4 (w : World) : (zeroValue 4).run Yba.prog w = .ok (.bool false) w := by kernel_rfl
theorem makeMap32 (n : Int) (w : World) : (Instr.makeMap 32 (some (.int .i64 n))).run Yba.prog w = .ok (.map (some w.heap.size)) (w.alloc (.map #[] 0)) := by kernel_rfl

theorem wf16 {x : Nat} (h : x ≤ 65535) : (Lit.int .u16 (x : Int)).wf = true := by
  simp [Lit.wf, IntKind.min, IntKind.max, IntKind.signed, IntKind.bits]
  omega

set_option maxRecDepth 100000 in
set_option maxHeartbeats 400000 in
theorem repeated_calls (LB n : Nat) (x : Nat → Nat) (hx : ∀ q, x q ≤ 65535) (da : Option Addr) (dl dc : Nat) (hn : n ≤ 1024) (w : World)
    (h0 : ∀ q, q < n → w.cell? ⟨LB, q * 2, none⟩ = some (.int .u16 (x q))) (h1 : ∀ q, q < n → w.cell? ⟨LB, q * 2 + 1, none⟩ = some (.slice da dl dc)) (hLB : LB < w.heap.size) :
    Calls Yba.prog 4 #[.slice (some ⟨LB, 0, none⟩) n n] w fun e w' => e = .returned (.tuple #[.int .u16 (rep x n 0).1, .bool (rep x n 0).2]) ∧ Below w.heap.size w w' := by
  generalize hR0 : rep x n 0 = R
  obtain ⟨r1, r2⟩ := R
  have HR : Hid _ := hR0
  clear hR0
  simp only
  have hmm := makeMap32
  go_enter Yba.func4, Yba.ntmps4
  go_wp2
  go_loopw [12] (fun i wr => ∃ k : Nat, k ≤ n ∧ i = .int .i64 k ∧ IsM wr w.heap.size k (.bool false) (fun a => .bool (among x k a)) ∧ Below w.heap.size w wr ∧ Hid (rep x (n - k) k = (r1, r2)))
    (fun i _ => n - (intOf i).toNat)
  case atStart => exact ⟨0, by omega, rfl, isM_made _ _, (Below.refl _ _).alloc (Nat.le_refl _) _, HR.out⟩
  case round =>
    obtain ⟨k, hk, rfl, hM, hbel, HC⟩ := hrel
    clear HR
    have hws := hbel.size
    by_cases hkn : k < n
    · have hki : (k : Int) < (n : Int) := by omega
      have hd : decide ((k : Int) < (n : Int)) = true := decide_eq_true hki
      have c0 := (hbel.cell (p := ⟨LB, k * 2, none⟩) hLB).trans (h0 k hkn)
      have c1 := (hbel.cell (p := ⟨LB, k * 2 + 1, none⟩) hLB).trans (h1 k hkn)
      have hxk := hx k
      have hstep : n - k = (n - (k + 1)) + 1 := by omega
      have hC : rep x (n - k) k = (r1, r2) := HC.out
      rw [hstep, rep] at hC
      have HC2 : Hid _ := hC
      clear hC hstep HC h0 h1
      have hM1 := hM.kept (World.grownBy_alloc wr (.cells #[.int .u16 (x k), .slice da dl dc] 27) none) (by simp)
      cases ha : among x k (x k) with
      | true =>
        have HA : Hid _ := ha
        clear ha
        go_wp2_with (at_lookup; refine wpList_look _ rfl _ _ 32 4 rfl Yba.underlying32 w.heap.size k (.bool false) _ (x k) rfl rfl hM1 (zero4 _) (wf16 hxk) ?_; rw [HA.out])
        go_ret2
        have hC := HC2.out
        rw [if_pos HA.out] at hC
        simp only [Prod.mk.injEq] at hC
        obtain ⟨rfl, rfl⟩ := hC
        exact ⟨rfl, hbel.alloc hws _⟩
      | false =>
        have HA : Hid _ := ha
        clear ha
        go_wp2_with (first
          | (at_lookup; refine wpList_look _ rfl _ _ 32 4 rfl Yba.underlying32 w.heap.size k (.bool false) _ (x k) rfl rfl hM1 (zero4 _) (wf16 hxk) ?_; rw [HA.out])
          | (at_mapUpdate; refine wpList_store _ rfl _ _ _ 32 4 rfl Yba.underlying32 w.heap.size k (.bool false) _ (x k) (.bool true) rfl rfl rfl hM1 (by unfold maxLen; omega) (wf16 hxk) ?_; intro w3 hm3 hg3))
        have hM3 : IsM w3 w.heap.size (k + 1) (.bool false) (fun a => .bool (among x (k + 1) a)) := by
          refine hm3.congr fun a => ?_
          unfold upd
          rw [among_succ]
          by_cases e : a = (x k : Int)
          · rw [if_pos e, e]; simp
          · rw [if_neg e]
            have e' : ((x k : Int) == a) = false := beq_eq_false_iff_ne.2 (fun h => e h.symm)
            rw [e', Bool.or_false]
        have hb3 : Below w.heap.size w w3 := (hbel.alloc hws (.cells #[.int .u16 (x k), .slice da dl dc] 27)).grown hg3 (by simp; omega) (fun j hj => by cases hj; exact Nat.le_refl _)
        have hC := HC2.out
        have hA : among x k (x k) = false := HA.out
        rw [if_neg (by rw [hA]; simp)] at hC
        have HC3 : Hid _ := hC
        clear hC hA hm3 hg3 hM hM1 hbel HC2 HA
        go_wp2
        go_roundw
        case rel => exact ⟨k + 1, by omega, by go_num, hM3, hb3, HC3.out⟩
        case measure => simp [intOf]; omega
    · go_wp2
      go_ret2
      have hC := HC.out
      rw [show n - k = 0 by omega] at hC
      simp only [rep, Prod.mk.injEq] at hC
      obtain ⟨rfl, rfl⟩ := hC
      exact ⟨rfl, hbel⟩

theorem among_true {x : Nat → Nat} {j i : Nat} (hi : i < j) (h : (x i : Int) = x j) : among x j (x j) = true := by
  unfold among
  rw [List.any_eq_true]
  exact ⟨i, List.mem_range.2 hi, by simp [h]⟩

theorem among_false {x : Nat → Nat} {j : Nat} (h : ∀ i, i < j → (x i : Int) ≠ x j) : among x j (x j) = false := by
  unfold among
  rw [List.any_eq_false]
  intro i hi
  have := h i (List.mem_range.1 hi)
  simpa using this

/-- A slice of numbers that came in, by the index. -/
def Read (w : World) (a : Option Addr) (n : Nat) (x : Nat → Nat) : Prop :=
  (∀ q, x q ≤ 65535) ∧ (0 < n → ∃ b off, a = some ⟨b, off, none⟩ ∧ ∀ q, q < n → w.cell? ⟨b, off + q, none⟩ = some (.int .u16 (x q)))

set_option maxRecDepth 100000 in
set_option maxHeartbeats 400000 in
theorem model_calls (a0 : Option Addr) (n cap : Nat) (x : Nat → Nat) (hn : n ≤ 1024) (w : World) (hr : Read w a0 n x) :
    Calls Yba.prog 5 #[.slice a0 n cap] w fun e w' => e = .returned (.tuple #[.int .u16 (rep x n 0).1, .bool (rep x n 0).2]) ∧ ∃ m, w' = w.drewN m := by
  generalize hR0 : rep x n 0 = R
  obtain ⟨r1, r2⟩ := R
  have HR : Hid _ := hR0
  clear hR0
  simp only
  go_enter Yba.func5, Yba.ntmps5
  go_wp2
  go_loopw [4] (fun i wr => ∃ k : Nat, k ≤ n ∧ i = .int .i64 k ∧ (∃ m, wr = w.drewN m) ∧ Hid (rep x (n - k) k = (r1, r2)))
    (fun i _ => n - (intOf i).toNat)
  case atStart => exact ⟨0, by omega, rfl, ⟨0, rfl⟩, HR.out⟩
  case round =>
    obtain ⟨k, hk, rfl, ⟨m, rfl⟩, HC⟩ := hrel
    clear HR
    by_cases hkn : k < n
    · obtain ⟨b, off, ha, hc⟩ := hr.2 (by omega)
      have hki : (k : Int) < (n : Int) := by omega
      have hd : decide ((k : Int) < (n : Int)) = true := decide_eq_true hki
      have hidx : ∀ q : Nat, q < n → ∀ wx, Sem.run Yba.prog (Instr.indexAt 22 (.slice a0 n cap) (.int .i64 q)) wx = .ok (.pointer (some ⟨b, off + q, none⟩)) wx := by
        intro q hq wx
        subst ha
        have hqi : (q : Int) < (n : Int) := by omega
        go_simp
      have ck := hc k hkn
      have ik := hidx k hkn
      have hstep : n - k = (n - (k + 1)) + 1 := by omega
      have hC : rep x (n - k) k = (r1, r2) := HC.out
      rw [hstep, rep] at hC
      have HC2 : Hid _ := hC
      have HI : Hid _ := And.intro hidx hc
      clear hC hstep HC hidx hc ha hr
      go_wp2
      go_loopw [5] (fun i wr => ∃ j : Nat, j ≤ k ∧ i = .int .i64 j ∧ (∃ m, wr = w.drewN m) ∧ Hid (∀ i, i < j → (x i : Int) ≠ x k))
        (fun i _ => k - (intOf i).toNat)
      case atStart => exact ⟨0, by omega, rfl, ⟨m, rfl⟩, fun i hi => absurd hi (Nat.not_lt_zero _)⟩
      case round =>
        obtain ⟨j, hj, rfl, ⟨m', rfl⟩, HN⟩ := hrel
        by_cases hjk : j < k
        · have hji : (j : Int) < (k : Int) := by omega
          have hdj : decide ((j : Int) < (k : Int)) = true := decide_eq_true hji
          have cj := HI.out.2 j (by omega)
          have ij := HI.out.1 j (by omega)
          by_cases hx : (x j : Int) = x k
          · have hxt : ((x j : Int) == (x k : Int)) = true := beq_iff_eq.2 hx
            have hC := HC2.out
            rw [if_pos (among_true hjk hx)] at hC
            have HC3 : Hid _ := hC
            clear hC hx HC2 HN HI
            generalize x j = xj at *
            go_wp2
            go_quiet (fail)
            go_wp2
            go_ret2
            have hC := HC3.out
            simp only [Prod.mk.injEq] at hC
            obtain ⟨rfl, rfl⟩ := hC
            exact ⟨rfl, _, rfl⟩
          · have hxt : ((x j : Int) == (x k : Int)) = false := beq_eq_false_iff_ne.2 hx
            have hN : ∀ i, i < j + 1 → (x i : Int) ≠ x k := by
              intro i hi
              rcases Nat.lt_or_ge i j with h | h
              · exact HN.out i h
              · obtain rfl : i = j := by omega
                exact hx
            have HN2 : Hid _ := hN
            clear hN hx HN HI
            generalize x j = xj at *
            go_wp2
            go_quiet (fail)
            go_wp2
            go_roundw
            case rel => exact ⟨j + 1, by omega, by go_num, ⟨_, rfl⟩, HN2.out⟩
            case measure => simp [intOf]; omega
        · have hC := HC2.out
          have hN : among x k (x k) = false := among_false fun i hi => HN.out i (by omega)
          rw [if_neg (by rw [hN]; simp)] at hC
          have HC3 : Hid _ := hC
          clear hC hN HC2 HN HI
          go_wp2
          go_roundw
          case rel => exact ⟨k + 1, by omega, by go_num, ⟨_, rfl⟩, HC3.out⟩
          case measure => simp [intOf]; omega
    · go_wp2
      go_ret2
      have hC := HC.out
      rw [show n - k = 0 by omega] at hC
      simp only [rep, Prod.mk.injEq] at hC
      obtain ⟨rfl, rfl⟩ := hC
      exact ⟨rfl, m, rfl⟩
end Go.Proofs.Ybulkxky
