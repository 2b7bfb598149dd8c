/-
  (*msgQueue).pop, walked: entered alone, the lock free.
-/
import Derived.Test.YbulkxlmRows
import Derived.Test.YbulkxlmLocks
import Derived.Conc.MuLone
import Derived.WalkKit
import Derived.Deep.QuietTactic
import Derived.BigQuiet
import Derived.BigRegion
import Derived.Deep.Cut
import Derived.Deep.OwnRows
import Derived.Below
namespace Go.Proofs.Ybulkxlm
open Go.RowKit Go.MuLone

theorem below_drewN {B : Nat} {w w' : World} (h : Below B w w') (m : Nat) : Below B w (w'.drewN m) := h.trans ⟨rfl, rfl, rfl, Nat.le_refl _, fun _ _ => rfl⟩
theorem cell_of {w : World} {b : Nat} {t : TypeId} {n : Nat} {f : Nat → Value} (h : w.rowIs b t n f) {i : Nat} (hi : i < n) {v : Value} (e : f i = v) : w.cell? ⟨b, i, none⟩ = some v := by rw [h.cell hi, e]
theorem rowIs_drewN {w : World} {b : Nat} {t : TypeId} {n : Nat} {f : Nat → Value} (h : w.rowIs b t n f) (m : Nat) : (w.drewN m).rowIs b t n f := h.of_block rfl

set_option maxRecDepth 100000 in
set_option maxHeartbeats 1000000 in
theorem pop_none (Q n : Nat) (B : Nat) (a : Option Addr) (c : Nat) (g : Nat → Value) (w : World) (rQ : w.rowIs Q 52 8 g) (g0 : g 0 = .int .i32 0) (g2 : g 2 = .slice a n c) (g3 : g 3 = .int .i64 n) (hB : B ≤ Q) :
    Calls Yba.prog 4 #[.pointer (some ⟨Q, 0, none⟩)] w fun e w' => e = .returned (.tuple #[.pointer none, .int .u64 0]) ∧ Below B w w' ∧
      ∃ g', w'.rowIs Q 52 8 g' ∧ g' 2 = .slice a n c ∧ g' 3 = .int .i64 n := by
  have c0 := rQ.cell (i := 0) (by omega)
  have f0 := rQ.frozen 0
  rw [g0] at c0
  go_enter_defers Yba.func4, Yba.ntmps4
  go_wp2_with (go_at_call 5; refine (lock_free Yba.muLib ⟨Q, 0, none⟩ _ c0 f0).mono ?_; rintro e w' ⟨rfl, rfl⟩)
  have r1 := rQ.set 0 (.int .i32 1)
  have b1 := (Below.refl B w).setCell (p := ⟨Q, 0, none⟩) hB (.int .i32 1)
  generalize w.setCell ⟨Q, 0, none⟩ (.int .i32 1) = w1 at *
  have c2 := r1.cell (i := 2) (by omega)
  have c3 := r1.cell (i := 3) (by omega)
  simp [g2] at c2
  simp [g3] at c3
  clear c0 f0
  go_quiet (fail)
  go_wp2
  refine leaves_cons (f := 6) (args := #[.pointer (some ⟨Q, 0, none⟩)]) (by simp) (by simp [go_sem]) ?_
  refine (unlock_deferred Yba.muLib ⟨Q, 0, none⟩ .returning _ ?_ ?_).mono ?_
  · have := r1.cell (i := 0) (by omega)
    simpa using this
  · exact r1.frozen 0
  rintro e u' w'' ⟨rfl, rfl, rfl⟩
  refine ⟨_, results_tmp2 rfl _ _ _, rfl, (below_drewN b1 _).setCell (p := ⟨Q, 0, none⟩) hB _, _, (rowIs_drewN r1 nq).set 0 _, ?_, ?_⟩
  · simpa using g2
  · simpa using g3

set_option maxRecDepth 100000 in
set_option maxHeartbeats 1000000 in
theorem pop_some (S Q n k : Nat) (B : Nat) (f g : Nat → Value) (w : World) (hSQ : S ≠ Q) (rS : w.rowIs S 40 (n * 2) f) (rQ : w.rowIs Q 52 8 g) (g0 : g 0 = .int .i32 0) (g2 : g 2 = .slice (some ⟨S, 0, none⟩) n n) (g3 : g 3 = .int .i64 k) (hn : n ≤ 1024) (hh : k < n) (hB : B ≤ Q) (hB2 : B ≤ S)
    (p : Option Addr) (x : Int) (e0 : f (k * 2) = .pointer p) (e1 : f (k * 2 + 1) = .int .u64 x) :
    Calls Yba.prog 4 #[.pointer (some ⟨Q, 0, none⟩)] w fun e w' => e = .returned (.tuple #[.pointer p, .int .u64 x]) ∧ Below B w w' ∧
      w'.rowIs S 40 (n * 2) (fun j => if j = k * 2 + 1 then .int .u64 0 else if j = k * 2 then .pointer none else f j) ∧
      ∃ g', w'.rowIs Q 52 8 g' ∧ g' 0 = .int .i32 0 ∧ g' 2 = .slice (some ⟨S, 0, none⟩) (if k + 1 = n then 0 else n) n ∧ g' 3 = .int .i64 (if k + 1 = n then 0 else k + 1 : Nat) := by
  have c0 := rQ.cell (i := 0) (by omega)
  have f0 := rQ.frozen 0
  rw [g0] at c0
  have hSQ' : Q ≠ S := fun e => hSQ e.symm
  have hne : ((k : Int) == (n : Int)) = false := by simp; omega
  have hhi : (k : Int) < (n : Int) := by omega
  have ltS := rS.lt
  have ltQ := rQ.lt
  go_enter_defers Yba.func4, Yba.ntmps4
  go_wp2_with (go_at_call 5; refine (lock_free Yba.muLib ⟨Q, 0, none⟩ _ c0 f0).mono ?_; rintro e w' ⟨rfl, rfl⟩)
  have r1 := rQ.set 0 (.int .i32 1)
  have rS1 := rS.setOther (a := ⟨Q, 0, none⟩) hSQ (.int .i32 1)
  have b1 := (Below.refl B w).setCell (p := ⟨Q, 0, none⟩) hB (.int .i32 1)
  generalize w.setCell ⟨Q, 0, none⟩ (.int .i32 1) = w1 at *
  have c2 := r1.cell (i := 2) (by omega)
  have c3 := r1.cell (i := 3) (by omega)
  simp [g2] at c2
  simp [g3] at c3
  clear c0 f0
  go_quiet (fail)
  go_upto_region 5 with fail
  replace r1 := rowIs_drewN r1 nq
  replace rS1 := rowIs_drewN rS1 nq
  replace b1 := below_drewN b1 nq
  generalize w1.drewN nq = w2 at *
  clear c2 c3 ltS ltQ
  have ltS := rS1.lt
  have ltQ := r1.lt
  have c2 := r1.cell (i := 2) (by omega)
  have c3 := r1.cell (i := 3) (by omega)
  simp [g2] at c2
  simp [g3] at c3
  have t0 := rS1.cell (i := k * 2) (by omega)
  have t1 := rS1.cell (i := k * 2 + 1) (by omega)
  rw [e0] at t0
  rw [e1] at t1
  have c2' := fun o => (World.cell?_alloc_lt w2.drew o ⟨Q, 2, none⟩ ltQ).trans c2
  have c3' := fun o => (World.cell?_alloc_lt w2.drew o ⟨Q, 3, none⟩ ltQ).trans c3
  have t0' := fun o => (World.cell?_alloc_lt w2.drew o ⟨S, k * 2, none⟩ ltS).trans t0
  have t1' := fun o => (World.cell?_alloc_lt w2.drew o ⟨S, k * 2 + 1, none⟩ ltS).trans t1
  go_cut [4] from 22 (fun s4 wx => s4 = .pointer (some ⟨w2.heap.size, 0, none⟩) ∧ wx = (w2.alloc (.cells #[.pointer p, .int .u64 x] 40)).drew)
  case first =>
    go_big_region
    go_wp2_with fail
    go_meet
    exact ⟨rfl, rfl⟩
  case rest =>
  obtain ⟨rfl, rfl⟩ := hcut
  have r3 := (r1.alloc (.cells #[.pointer p, .int .u64 x] 40)).drew
  have rS3 := (rS1.alloc (.cells #[.pointer p, .int .u64 x] 40)).drew
  have b3 := (b1.alloc (Nat.le_trans hB (Nat.le_of_lt ltQ)) (.cells #[.pointer p, .int .u64 x] 40)).drew
  have rN3 := (World.rowIs_alloc w2 #[.pointer p, .int .u64 x] 40 (fun i => if i = 0 then .pointer p else .int .u64 x) (fun i hi => by match i, hi with | 0, _ => rfl | 1, _ => rfl)).drew
  have hNQ : w2.heap.size ≠ Q := by omega
  have hNS : w2.heap.size ≠ S := by omega
  have hNQ' : Q ≠ w2.heap.size := by omega
  have hNS' : S ≠ w2.heap.size := by omega
  clear c2 c3 t0 t1 c2' c3' t0' t1' r1 rS1 b1 ltS ltQ
  generalize (w2.alloc (.cells #[.pointer p, .int .u64 x] 40)).drew = w3 at *
  generalize w2.heap.size = N at *
  have c2 := r3.cell (i := 2) (by omega)
  have c3 := r3.cell (i := 3) (by omega)
  simp [g2] at c2
  simp [g3] at c3
  have t0 := rS3.cell (i := k * 2) (by omega)
  have t1 := rS3.cell (i := k * 2 + 1) (by omega)
  rw [e0] at t0
  rw [e1] at t1
  have fz0 := rS3.frozen (k * 2)
  have fz1 := rS3.frozen (k * 2 + 1)
  have HK : Hid _ := And.intro r3 (And.intro rS3 (And.intro b3 rN3))
  have HG : Hid _ := And.intro g0 (And.intro g2 (And.intro g3 (And.intro e0 e1)))
  have HB : Hid _ := And.intro hB hB2
  have HN : Hid _ := And.intro hNQ hNS
  clear r3 rS3 b3 rN3 g0 g2 g3 e0 e1 rS rQ hNQ hNS hNQ' hNS' hB hB2
  go_upto_region 6 with fail
  go_cut [] from 32 (fun wx => wx = ((w3.setCell ⟨S, k * 2, none⟩ (.pointer none)).setCell ⟨S, k * 2 + 1, none⟩ (.int .u64 0)).drew)
  case first =>
    go_big_region
    go_wp2_with fail
    go_meet
    exact rfl
  case rest =>
  subst hcut
  obtain ⟨r3, rS3, b3, rN3⟩ := HK.out
  obtain ⟨g0, g2, g3, e0, e1⟩ := HG.out
  have hB' := HB.out.1
  have hB2' := HB.out.2
  have hNQ := HN.out.1
  have hNS := HN.out.2
  have r4 := ((r3.setOther (a := ⟨S, k * 2, none⟩) hSQ' (.pointer none)).setOther (a := ⟨S, k * 2 + 1, none⟩) hSQ' (.int .u64 0)).drew
  have rS4 := ((rS3.set (k * 2) (.pointer none)).set (k * 2 + 1) (.int .u64 0)).drew
  have b4 := ((b3.setCell (p := ⟨S, k * 2, none⟩) hB2' (.pointer none)).setCell (p := ⟨S, k * 2 + 1, none⟩) hB2' (.int .u64 0)).drew
  have rN4 := ((rN3.setOther (a := ⟨S, k * 2, none⟩) hNS (.pointer none)).setOther (a := ⟨S, k * 2 + 1, none⟩) hNS (.int .u64 0)).drew
  clear t0 t1 fz0 fz1 c2 c3 r3 rS3 b3 rN3 HK HB HN HG
  generalize ((w3.setCell ⟨S, k * 2, none⟩ (.pointer none)).setCell ⟨S, k * 2 + 1, none⟩ (.int .u64 0)).drew = w4 at *
  clear w3
  have c2 := r4.cell (i := 2) (by omega)
  have c3 := r4.cell (i := 3) (by omega)
  simp [g2] at c2
  simp [g3] at c3
  have fz2 := r4.frozen 2
  have fz3 := r4.frozen 3
  have n0 := rN4.cell (i := 0) (by simp)
  have n1 := rN4.cell (i := 1) (by simp)
  simp at n0 n1
  have HK : Hid _ := And.intro r4 (And.intro rS4 (And.intro b4 rN4))
  have HG : Hid _ := And.intro g0 (And.intro g2 (And.intro g3 (And.intro hB' hB2')))
  clear r4 rS4 b4 rN4 g0 g2 g3 e0 e1 hB' hB2' hne
  by_cases hl : k + 1 = n
  · have hl2 : (((k : Int) + 1) == (n : Int)) = true := by simp; omega
    have Hl : Hid _ := hl
    clear hl
    go_wp2
    go_quiet (fail)
    go_wp2
    go_quiet (fail)
    go_wp2
    obtain ⟨r4, rS4, b4, rN4⟩ := HK.out
    obtain ⟨g0, g2, g3, hB', hB2'⟩ := HG.out
    refine leaves_cons (f := 6) (args := #[.pointer (some ⟨Q, 0, none⟩)]) (by simp) (by simp [go_sem]) ?_
    refine (unlock_deferred Yba.muLib ⟨Q, 0, none⟩ .returning _ ?_ ?_).mono ?_
    · exact cell_of (rowIs_drewN (((rowIs_drewN (r4.set 3 _) _).set 2 _).set 3 _) _) (by omega) (by simp)
    · exact World.rowIs.frozen (rowIs_drewN (((rowIs_drewN (r4.set 3 _) _).set 2 _).set 3 _) _) 0
    rintro e u' w'' ⟨rfl, rfl, rfl⟩
    refine ⟨_, results_tmp2 rfl _ _ _, rfl, (below_drewN (((below_drewN (b4.setCell (p := ⟨Q, 3, none⟩) hB' _) _).setCell (p := ⟨Q, 2, none⟩) hB' _).setCell (p := ⟨Q, 3, none⟩) hB' _) _).setCell (p := ⟨Q, 0, none⟩) hB' _, (rowIs_drewN (((rowIs_drewN (rS4.setOther (a := ⟨Q, 3, none⟩) hSQ _) _).setOther (a := ⟨Q, 2, none⟩) hSQ _).setOther (a := ⟨Q, 3, none⟩) hSQ _) _).setOther (a := ⟨Q, 0, none⟩) hSQ _, _, (rowIs_drewN (((rowIs_drewN (r4.set 3 _) _).set 2 _).set 3 _) _).set 0 _, ?_, ?_, ?_⟩
    · simp
    · simp
    · simp
  · have hl2 : (((k : Int) + 1) == (n : Int)) = false := by simp; omega
    have Hl : Hid _ := hl
    clear hl
    go_wp2
    go_quiet (fail)
    go_wp2
    go_quiet (fail)
    go_wp2
    obtain ⟨r4, rS4, b4, rN4⟩ := HK.out
    obtain ⟨g0, g2, g3, hB', hB2'⟩ := HG.out
    refine leaves_cons (f := 6) (args := #[.pointer (some ⟨Q, 0, none⟩)]) (by simp) (by simp [go_sem]) ?_
    refine (unlock_deferred Yba.muLib ⟨Q, 0, none⟩ .returning _ ?_ ?_).mono ?_
    · exact cell_of (rowIs_drewN (r4.set 3 _) _) (by omega) (by simp)
    · exact World.rowIs.frozen (rowIs_drewN (r4.set 3 _) _) 0
    rintro e u' w'' ⟨rfl, rfl, rfl⟩
    refine ⟨_, results_tmp2 rfl _ _ _, rfl, (below_drewN (b4.setCell (p := ⟨Q, 3, none⟩) hB' _) _).setCell (p := ⟨Q, 0, none⟩) hB' _, (rowIs_drewN (rS4.setOther (a := ⟨Q, 3, none⟩) hSQ _) _).setOther (a := ⟨Q, 0, none⟩) hSQ _, _, (rowIs_drewN (r4.set 3 _) _).set 0 _, ?_, ?_, ?_⟩
    · simp
    · simp [g2]
    · simp
end Go.Proofs.Ybulkxlm
