/-
  LawS1181AModel, walked.
-/
import Derived.Test.YbulkxkyCalls
namespace Go.Proofs.Ybulkxky
open Go.RowKit Go.Maps

theorem info27 : (Yba.prog.info? 27).map (fun i => (i.zero, i.size, i.bytes)) = some (some (.agg #[.int .u16 0, .slice none 0 0]), 2, 32) := by kernel_rfl

theorem make24 (n : Nat) (hn : n ≤ 1024) (w : World) : (Instr.makeSlice 24 (.int .i64 n) (.int .i64 n)).run Yba.prog w = .ok (.slice (some ⟨w.heap.size, 0, none⟩) n n) (w.alloc (.cells (madeCells #[.int .u16 0, .slice none 0 0] (n * 2)) 27)) := by
  obtain ⟨i0, hi, hz0, hz1, hz2⟩ := info_parts info27
  have hr := run_make (P := Yba.prog) w 24 27 i0 _ Yba.underlying24 hi hz0 .i64 .i64 n n (by omega) (by omega) (by rw [hz2]; omega) (by omega)
  simp only [Int.toNat_natCast, hz1] at hr
  exact hr

set_option maxRecDepth 100000 in
set_option maxHeartbeats 1000000 in
theorem law_go (a0 : Option Addr) (n cap : Nat) (hn : n ≤ 1024) (x : Nat → Nat) (da : Option Addr) (dl dc : Nat) (w : World) (hr : Read w a0 n x) :
    Calls Yba.prog 3 #[.slice a0 n cap, .slice da dl dc] w fun e w' => e = .returned (.bool true) ∧ Below w.heap.size w w' := by
  have hnD : decide ((1024 : Int) < (n : Int)) = false := decide_eq_false (by omega)
  have mk := make24 n hn
  go_enter Yba.func3, Yba.ntmps3
  go_wp2
  go_loopw [6] (fun i wr => ∃ (k : Nat) (f : Nat → Value), k ≤ n ∧ i = .int .i64 k ∧ wr.rowIs w.heap.size 27 (n * 2) f ∧ Below w.heap.size w wr ∧
      Hid (∀ q, q < k → f (q * 2) = .int .u16 (x q) ∧ f (q * 2 + 1) = .slice da dl dc))
    (fun i _ => n - (intOf i).toNat)
  case atStart =>
    have r0 := World.rowIs_alloc w (madeCells #[.int .u16 0, .slice none 0 0] (n * 2)) 27 (fun i => (madeCells #[.int .u16 0, .slice none 0 0] (n * 2)).getD i undef) (fun i hi => by simp [hi])
    rw [size_madeCells] at r0
    exact ⟨0, _, by omega, rfl, r0, (Below.refl _ w).alloc (Nat.le_refl _) _, fun q hq => absurd hq (Nat.not_lt_zero _)⟩
  case round =>
    obtain ⟨k, f, hk, rfl, rI, hbel, HF⟩ := hrel
    have hws := hbel.size
    by_cases hkn : k < n
    · have hki : (k : Int) < (n : Int) := by omega
      have hd : decide ((k : Int) < (n : Int)) = true := decide_eq_true hki
      obtain ⟨b, off, ha, hc⟩ := hr.2 (by omega)
      have hck := hc k hkn
      have hb : b < w.heap.size := World.block_lt_of_cell? _ _ hck
      have ck := (hbel.cell (p := ⟨b, off + k, none⟩) hb).trans hck
      have hidx : ∀ wx, Sem.run Yba.prog (Instr.indexAt 22 (.slice a0 n cap) (.int .i64 k)) wx = .ok (.pointer (some ⟨b, off + k, none⟩)) wx := by
        intro wx
        subst ha
        go_simp
      have t0 := rI.cell (i := k * 2) (by omega)
      have t1 := rI.cell (i := k * 2 + 1) (by omega)
      have fz0 := rI.frozen (k * 2)
      have fz1 := rI.frozen (k * 2 + 1)
      clear ha hc hck hr
      go_wp2
      have rI2 := (rI.set (k * 2) (.int .u16 (x k))).set (k * 2 + 1) (.slice da dl dc)
      have hb2 := (hbel.setCell (p := ⟨w.heap.size, k * 2, none⟩) (Nat.le_refl _) (.int .u16 (x k))).setCell (p := ⟨w.heap.size, k * 2 + 1, none⟩) (Nat.le_refl _) (.slice da dl dc)
      go_roundw
      case rel =>
        refine ⟨k + 1, _, by omega, by go_num, rI2, hb2, fun q hq => ?_⟩
        by_cases e : q = k
        · subst e
          constructor
          · show (if q * 2 = q * 2 + 1 then _ else if q * 2 = q * 2 then _ else _) = _
            rw [if_neg (by omega), if_pos rfl]
          · show (if q * 2 + 1 = q * 2 + 1 then _ else _) = _
            rw [if_pos rfl]
        · have := HF.out q (by omega)
          constructor
          · show (if q * 2 = k * 2 + 1 then _ else if q * 2 = k * 2 then _ else _) = _
            rw [if_neg (by omega), if_neg (by omega)]
            exact this.1
          · show (if q * 2 + 1 = k * 2 + 1 then _ else if q * 2 + 1 = k * 2 then _ else _) = _
            rw [if_neg (by omega), if_neg (by omega)]
            exact this.2
      case measure => simp [intOf]; omega
    · obtain rfl : k = n := by omega
      clear mk
      have hrep := repeated_calls w.heap.size k x hr.1 da dl dc hn wr (fun q hq => by rw [rI.cell (by omega), (HF.out q hq).1]) (fun q hq => by rw [rI.cell (by omega), (HF.out q hq).2]) rI.lt
      have H1 : Hid _ := hrep
      have hmod : ∀ w2, Below w.heap.size w w2 → Calls Yba.prog 5 #[.slice a0 k cap] w2 fun e w' => e = .returned (.tuple #[.int .u16 (rep x k 0).1, .bool (rep x k 0).2]) ∧ ∃ m, w' = w2.drewN m := by
        intro w2 hb2
        refine model_calls a0 k cap x hn w2 ⟨hr.1, fun h0 => ?_⟩
        obtain ⟨b, off, ha, hc⟩ := hr.2 h0
        refine ⟨b, off, ha, fun q hq => ?_⟩
        rw [hb2.cell (World.block_lt_of_cell? _ _ (hc q hq))]
        exact hc q hq
      have H2 : Hid _ := hmod
      clear hrep hmod rI HF hr
      generalize rep x k 0 = R at *
      obtain ⟨r1, r2⟩ := R
      go_wp2_with fail
      refine Calls.mono H1.out ?_
      rintro e w2 ⟨rfl, hb2⟩
      have hbw2 : Below w.heap.size w w2 := hbel.trans (hb2.mono hws)
      go_wp2_with fail
      refine Calls.mono (H2.out w2 hbw2) ?_
      rintro e w3 ⟨rfl, m, hm⟩
      subst hm
      clear H1 H2
      cases r2
      · go_wp2
        go_ret
        exact ⟨rfl, below_drewN hbw2 _⟩
      · go_wp2
        go_ret
        exact ⟨rfl, below_drewN hbw2 _⟩
end Go.Proofs.Ybulkxky
