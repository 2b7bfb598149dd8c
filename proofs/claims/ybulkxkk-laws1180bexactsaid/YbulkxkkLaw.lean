/-
  LawS1180BExact, walked.
-/
import Derived.Test.YbulkxkkCalls
namespace Go.Proofs.Ybulkxkk
open Go.RowKit

theorem info3 : (Yba.prog.info? 3).map (fun i => (i.zero, i.size, i.bytes)) = some (some (.int .i64 0), 1, 8) := by kernel_rfl
theorem info28 : (Yba.prog.info? 28).map (fun i => (i.zero, i.size, i.bytes)) = some (some (.slice none 0 0), 1, 24) := by kernel_rfl

theorem make28 (n : Nat) (hn : n ≤ 1024) (w : World) : (Instr.makeSlice 28 (.int .i64 n) (.int .i64 n)).run Yba.prog w = .ok (.slice (some ⟨w.heap.size, 0, none⟩) n n) (w.alloc (.cells (madeCells #[.int .i64 0] n) 3)) :=
  run_make_row' 28 3 (.int .i64 0) 8 Yba.underlying28 info3 rfl .i64 .i64 n (by omega) (by omega) w
theorem make32 (n : Nat) (hn : n ≤ 1024) (w : World) : (Instr.makeSlice 32 (.int .i64 n) (.int .i64 n)).run Yba.prog w = .ok (.slice (some ⟨w.heap.size, 0, none⟩) n n) (w.alloc (.cells (madeCells #[.slice none 0 0] n) 28)) :=
  run_make_row' 32 28 (.slice none 0 0) 24 Yba.underlying32 info28 rfl .i64 .i64 n (by omega) (by omega) w

/-- A slice of bytes that came in, by the index. -/
def Read (w : World) (a : Option Addr) (len : Nat) (z : Nat → Nat) : Prop :=
  (∀ q, z q ≤ 255) ∧ ∀ q, q < len → ∃ b off, a = some ⟨b, off, none⟩ ∧ b < w.heap.size ∧ w.cell? ⟨b, off + q, none⟩ = some (.int .u8 (z q))

/-- What a round does to the three rows. -/
theorem round_rel {w wr : World} {n k : Nat} {fT fL fE : Nat → Value} {L E : Nat → Nat} (rT : wr.rowIs w.heap.size 28 n fT) (rL : wr.rowIs (w.heap.size + 1) 3 n fL) (rE : wr.rowIs (w.heap.size + 1 + 1) 3 n fE) (hbel : Below w.heap.size w wr)
    (hF : ∀ q, q < k → (∃ a, fT q = .slice a (L q) (L q)) ∧ fL q = .int .i64 (L q) ∧ fE q = .int .i64 (E q)) (vL vE : Value) (aT : Option Addr) (l : Nat) (o : Obj) (hv : vL = .int .i64 (L k)) (hl : l = L k) (he : vE = .int .i64 (E k)) :
    ∃ fT' fL' fE' : Nat → Value,
      ((((wr.setCell ⟨w.heap.size + 1, k, none⟩ vL).setCell ⟨w.heap.size, k, none⟩ (.slice aT l l)).setCell ⟨w.heap.size + 1 + 1, k, none⟩ vE).alloc o).rowIs w.heap.size 28 n fT' ∧
      ((((wr.setCell ⟨w.heap.size + 1, k, none⟩ vL).setCell ⟨w.heap.size, k, none⟩ (.slice aT l l)).setCell ⟨w.heap.size + 1 + 1, k, none⟩ vE).alloc o).rowIs (w.heap.size + 1) 3 n fL' ∧
      ((((wr.setCell ⟨w.heap.size + 1, k, none⟩ vL).setCell ⟨w.heap.size, k, none⟩ (.slice aT l l)).setCell ⟨w.heap.size + 1 + 1, k, none⟩ vE).alloc o).rowIs (w.heap.size + 1 + 1) 3 n fE' ∧
      Below w.heap.size w ((((wr.setCell ⟨w.heap.size + 1, k, none⟩ vL).setCell ⟨w.heap.size, k, none⟩ (.slice aT l l)).setCell ⟨w.heap.size + 1 + 1, k, none⟩ vE).alloc o) ∧
      ∀ q, q < k + 1 → (∃ a, fT' q = .slice a (L q) (L q)) ∧ fL' q = .int .i64 (L q) ∧ fE' q = .int .i64 (E q) := by
  subst hv hl he
  refine ⟨_, _, _, (((rT.setOther (by show w.heap.size ≠ w.heap.size + 1; omega) _).set k _).setOther (by show w.heap.size ≠ w.heap.size + 1 + 1; omega) _).alloc o,
    (((rL.set k _).setOther (by show w.heap.size + 1 ≠ w.heap.size; omega) _).setOther (by show w.heap.size + 1 ≠ w.heap.size + 1 + 1; omega) _).alloc o,
    (((rE.setOther (by show w.heap.size + 1 + 1 ≠ w.heap.size + 1; omega) _).setOther (by show w.heap.size + 1 + 1 ≠ w.heap.size; omega) _).set k _).alloc o, ?_, ?_⟩
  · have h1 := ((hbel.setCell (p := ⟨w.heap.size + 1, k, none⟩) (Nat.le_succ _) (.int .i64 (L k))).setCell (p := ⟨w.heap.size, k, none⟩) (Nat.le_refl _) (.slice aT (L k) (L k))).setCell (p := ⟨w.heap.size + 1 + 1, k, none⟩) (by show w.heap.size ≤ w.heap.size + 1 + 1; omega) (.int .i64 (E k))
    exact h1.alloc h1.size o
  · intro q hq
    by_cases e : q = k
    · subst e
      simp
    · have := hF q (by omega)
      simp only [if_neg e]
      exact this

set_option maxRecDepth 100000 in
set_option maxHeartbeats 1000000 in
theorem law_go (a0 : Option Addr) (len0 cap0 : Nat) (z0 : Nat → Nat) (a1 : Option Addr) (n cap1 : Nat) (hn : n ≤ 1024) (z1 : Nat → Nat) (p : Int) (hp0 : 0 ≤ p) (hp1 : p ≤ 255) (w : World) (hr0 : Read w a0 len0 z0) (hr1 : Read w a1 n z1)
    (L E : Nat → Nat) (hL : ∀ q, L q = if q < len0 then z0 q % 16 else 0) (hE : ∀ q, E q = z1 q % (L q + 2)) :
    Calls Yba.prog 4 #[.slice a0 len0 cap0, .slice a1 n cap1, .int .u8 p] w fun e w' => e = .returned (.bool true) ∧ Below w.heap.size w w' := by
  have hnD : decide ((1024 : Int) < (n : Int)) = false := decide_eq_false (by omega)
  have mk28 := make28 n hn
  have mk32 := make32 n hn
  go_enter Yba.func4, Yba.ntmps4
  go_wp2
  obtain ⟨pi, hpi⟩ : ∃ pi : Nat, p % 3 = (pi : Int) := ⟨(p % 3).toNat, by omega⟩
  have hpi3 : pi < 3 := by omega
  simp only [hpi]
  clear hpi
  go_loopw [11] (fun i wr => ∃ (k : Nat) (fT fL fE : Nat → Value), k ≤ n ∧ i = .int .i64 k ∧ wr.rowIs w.heap.size 28 n fT ∧ wr.rowIs (w.heap.size + 1) 3 n fL ∧ wr.rowIs (w.heap.size + 1 + 1) 3 n fE ∧ Below w.heap.size w wr ∧
      Hid (∀ q, q < k → (∃ a, fT q = .slice a (L q) (L q)) ∧ fL q = .int .i64 (L q) ∧ fE q = .int .i64 (E q)))
    (fun i _ => n - (intOf i).toNat)
  case atStart =>
    have r0 := World.rowIs_made w (.slice none 0 0) n 28
    have r1 := World.rowIs_made (w.alloc (.cells (madeCells #[.slice none 0 0] n) 28)) (.int .i64 0) n 3
    have r2 := World.rowIs_made ((w.alloc (.cells (madeCells #[.slice none 0 0] n) 28)).alloc (.cells (madeCells #[.int .i64 0] n) 3)) (.int .i64 0) n 3
    simp only [World.size_alloc] at r1 r2
    exact ⟨0, _, _, _, by omega, rfl, (r0.alloc _).alloc _, r1.alloc _, r2, (((Below.refl _ w).alloc (Nat.le_refl _) _).alloc (by simp) _).alloc (by simp; omega) _, fun q hq => absurd hq (Nat.not_lt_zero _)⟩
  case round =>
    obtain ⟨k, fT, fL, fE, hk, rfl, rT, rL, rE, hbel, HF⟩ := hrel
    have hws := hbel.size
    by_cases hkn : k < n
    · have hki : (k : Int) < (n : Int) := by omega
      have hd : decide ((k : Int) < (n : Int)) = true := decide_eq_true hki
      obtain ⟨b1, o1, ha1, hb1, hc1⟩ := hr1.2 k hkn
      have c1 := (hbel.cell (p := ⟨b1, o1 + k, none⟩) hb1).trans hc1
      have hidx1 : ∀ wx, Sem.run Yba.prog (Instr.indexAt 27 (.slice a1 n cap1) (.int .i64 k)) wx = .ok (.pointer (some ⟨b1, o1 + k, none⟩)) wx := by
        intro wx
        subst ha1
        go_simp
      have z1b := hr1.1 k
      have tT := rT.cell hkn
      have tL := rL.cell hkn
      have tE := rE.cell hkn
      have fzT := rT.frozen k
      have fzL := rL.frozen k
      have fzE := rE.frozen k
      have ltT := rT.lt
      have ltL := rL.lt
      have ltE := rE.lt
      have lk := hL k
      have ek := hE k
      have nx1 : w.heap.size + 1 + 1 ≠ w.heap.size + 1 := by omega
      have nx2 : w.heap.size + 1 + 1 ≠ w.heap.size := by omega
      have nx3 : w.heap.size + 1 ≠ w.heap.size := by omega
      have rx := fun u1 u2 o => ((rE.setOther (a := ⟨w.heap.size + 1, k, none⟩) nx1 u1).setOther (a := ⟨w.heap.size, k, none⟩) nx2 u2).alloc o
      have bx := fun u1 u2 o => ((hbel.setCell (p := ⟨w.heap.size + 1, k, none⟩) (Nat.le_succ _) u1).setCell (p := ⟨w.heap.size, k, none⟩) (Nat.le_refl _) u2).alloc (by simp [World.setCell]; omega) o
      have cx := fun u1 u2 o => ((bx u1 u2 o).cell (p := ⟨b1, o1 + k, none⟩) hb1).trans hc1
      have ex := fun u1 u2 o => (rx u1 u2 o).cell hkn
      have fx := fun u1 u2 o => (rx u1 u2 o).frozen k
      clear nx1 nx2 nx3 rx bx
      by_cases hk0 : k < len0
      · have hd0 : decide ((k : Int) < (len0 : Int)) = true := decide_eq_true (by omega)
        obtain ⟨b0, o0, ha0, hb0, hc0⟩ := hr0.2 k hk0
        have c0 := (hbel.cell (p := ⟨b0, o0 + k, none⟩) hb0).trans hc0
        have hidx0 : ∀ wx, Sem.run Yba.prog (Instr.indexAt 27 (.slice a0 len0 cap0) (.int .i64 k)) wx = .ok (.pointer (some ⟨b0, o0 + k, none⟩)) wx := by
          intro wx
          have hki0 : (k : Int) < (len0 : Int) := by omega
          subst ha0
          go_simp
        have z0b := hr0.1 k
        rw [if_pos hk0] at lk
        have HLk : Hid _ := lk
        have HEk : Hid _ := ek
        have mkl := make28 (z0 k % 16) (by omega)
        rw [show ((z0 k % 16 : Nat) : Int) = (z0 k : Int) % 16 by omega] at mkl
        clear lk ek ha0 ha1 hc0 hc1 hr0 hr1 hL hE
        generalize z0 k = y0 at *
        generalize z1 k = y1 at *
        go_wp2
        obtain ⟨fT', fL', fE', R⟩ := round_rel rT rL rE hbel HF.out (.int .i64 ((y0 : Int) % 16)) (.int .i64 ((y1 : Int) % ((y0 : Int) % 16 + 2))) (some ⟨wr.heap.size, 0, none⟩) (y0 % 16) (.cells (madeCells #[.int .i64 0] (y0 % 16)) 3)
          (by rw [HLk.out]; congr 1) (HLk.out).symm (by rw [HEk.out, HLk.out]; congr 1)
        go_roundw
        case rel => exact ⟨k + 1, fT', fL', fE', by omega, by go_num, R.1, R.2.1, R.2.2.1, R.2.2.2.1, R.2.2.2.2⟩
        case measure => simp [intOf]; omega
      · have hd0 : decide ((k : Int) < (len0 : Int)) = false := decide_eq_false (by omega)
        rw [if_neg hk0] at lk
        have HLk : Hid _ := lk
        have HEk : Hid _ := ek
        have mkl := make28 0 (by omega)
        rw [show ((0 : Nat) : Int) = 0 from rfl] at mkl
        clear lk ek ha1 hc1 hr0 hr1 hL hE
        generalize z1 k = y1 at *
        go_wp2
        obtain ⟨fT', fL', fE', R⟩ := round_rel rT rL rE hbel HF.out (.int .i64 0) (.int .i64 ((y1 : Int) % 2)) (some ⟨wr.heap.size, 0, none⟩) 0 (.cells (madeCells #[.int .i64 0] 0) 3)
          (by rw [HLk.out]; rfl) (HLk.out).symm (by rw [HEk.out, HLk.out]; congr 1)
        go_roundw
        case rel => exact ⟨k + 1, fT', fL', fE', by omega, by go_num, R.1, R.2.1, R.2.2.1, R.2.2.2.1, R.2.2.2.2⟩
        case measure => simp [intOf]; omega
    · obtain rfl : k = n := by omega
      have mkr := make32 (1 + pi) (by omega)
      rw [show ((1 + pi : Nat) : Int) = 1 + (pi : Int) by omega] at mkr
      have hmc : (madeCells #[Value.slice none 0 0] (1 + pi))[pi]? = some (.slice none 0 0) := by simp [madeCells, Nat.mod_one]
      have hpn : (pi : Int) < ((1 + pi : Nat) : Int) := by omega
      have hLb : ∀ q, L q ≤ 15 := fun q => by rw [hL q]; split <;> omega
      have hEb : ∀ q, E q ≤ L q + 1 := fun q => by
        rw [hE q]
        have := Nat.mod_lt (z1 q) (show 0 < L q + 2 by omega)
        omega
      have HLE : Hid _ := And.intro hLb (And.intro hEb hE)
      clear mk28 mk32 hL hE hLb hEb hr0
      go_wp2_with fail
      rw [show (1 : Int) + (pi : Int) - 1 = (pi : Int) by omega]
      refine Calls.mono (count_calls (wr.heap.size + 1) wr.heap.size w.heap.size (w.heap.size + 1 + 1) (1 + pi) pi k (fun q => match fT q with | .slice a _ _ => a | _ => none) L L E HLE.out.1 HLE.out.2.1 (by omega) hn _ ?_ ?_ ?_ ?_ ?_) ?_
      · rw [World.cell?_alloc_at _ _ _ _ (by simp)]; rfl
      · rw [World.cell?_alloc_past _ _ _ (by simp), World.cell?_alloc_at _ _ _ _ rfl]
        simp [size_madeCells]
      · rw [World.cell?_alloc_at _ _ _ _ (by simp)]; rfl
      · intro q hq
        rw [((rT.alloc _).alloc _).cell hq]
        obtain ⟨⟨a, ha⟩, _⟩ := HF.out q hq
        rw [ha]
      · intro q hq
        rw [((rE.alloc _).alloc _).cell hq, (HF.out q hq).2.2]
      rintro e W ⟨rfl, hW⟩
      have rL2 : W.rowIs (w.heap.size + 1) 3 k fL := by rw [← hW]; exact (rL.alloc _).alloc _
      have rE2 : W.rowIs (w.heap.size + 1 + 1) 3 k fE := by rw [← hW]; exact (rE.alloc _).alloc _
      have hbW : Below w.heap.size w W := by rw [← hW]; exact (hbel.alloc hws _).alloc (by simp; omega) _
      clear hW rT rL rE hbel hws mkr hmc hpn
      have hcb := cnt_bounds (fun q => (L q : Int) - (E q : Int) + 1) (fun q => by have h1 := HLE.out.1 q; have h2 := HLE.out.2.1 q; omega) k 0 1 (by omega) (by omega)
      have hmod := model_calls (w.heap.size + 1) (w.heap.size + 1 + 1) k L E HLE.out.1 HLE.out.2.1 hn W (fun q hq => by rw [rL2.cell hq, (HF.out q hq).2.1]) (fun q hq => by rw [rE2.cell hq, (HF.out q hq).2.2])
      generalize cnt (fun q => (L q : Int) - (E q : Int) + 1) k 0 1 = R at *
      have HM : Hid _ := hmod
      clear hmod
      go_wp2_with fail
      refine Calls.mono HM.out ?_
      rintro e W2 ⟨rfl, m, hm⟩
      subst hm
      clear HM
      go_wp2
      go_loopw [17] (fun i wq => ∃ j : Nat, j ≤ k ∧ i = .int .i64 j ∧ ∃ m, wq = W.drewN m)
        (fun i _ => k - (intOf i).toNat)
      case atStart => exact ⟨0, by omega, rfl, _, rfl⟩
      case round =>
        obtain ⟨j, hj, rfl, m', rfl⟩ := hrel
        by_cases hjk : j < k
        · have hji : (j : Int) < (k : Int) := by omega
          have hd : decide ((j : Int) < (k : Int)) = true := decide_eq_true hji
          obtain ⟨b1, o1, ha1, hb1, hc1⟩ := hr1.2 j hjk
          have c1 := (hbW.cell (p := ⟨b1, o1 + j, none⟩) hb1).trans hc1
          have hidx1 : ∀ wx, Sem.run Yba.prog (Instr.indexAt 27 (.slice a1 k cap1) (.int .i64 j)) wx = .ok (.pointer (some ⟨b1, o1 + j, none⟩)) wx := by
            intro wx
            subst ha1
            go_simp
          have z1b := hr1.1 j
          have tL := rL2.cell hjk
          have tE := rE2.cell hjk
          rw [(HF.out j hjk).2.1] at tL
          rw [(HF.out j hjk).2.2] at tE
          have l15 := HLE.out.1 j
          have ej := HLE.out.2.2 j
          have et : (((E j : Nat) : Int) != ((z1 j : Nat) : Int) % (((L j : Nat) : Int) + 2)) = false := by
            rw [ej]
            simp
          clear ej ha1 hc1 HF HLE hr1
          generalize z1 j = y1 at *
          generalize L j = lj at *
          generalize E j = ej at *
          go_wp2
          go_quiet (fail)
          go_wp2
          go_roundw
          case rel => exact ⟨j + 1, by omega, by go_num, _, rfl⟩
          case measure => simp [intOf]; omega
        · go_wp2
          go_ret
          exact ⟨rfl, below_drewN hbW _⟩
end Go.Proofs.Ybulkxkk
