/-
  The decoder's methods: failAt, uvarint.
-/
import Derived.Test.YbulkxjwFmtUv
import Derived.Test.YbulkxjwFmtErr
namespace Go.Proofs.YbulkxjwFmt
open Go.RowKit

/-- The decoder's five cells. -/
def dec (b : Value) (at_ : Int) (err : Value) (errAt : Int) : Array Value := #[b, .int .i64 at_, .int .i64 8, err, .int .i64 errAt]

theorem dec_cell {w : World} {db : Nat} {b : Value} {t : Int} {err : Value} {ea : Int} (h : w.heap[db]? = some (.cells (dec b t err ea) 30 (0, 0))) :
    w.cell? ⟨db, 0, none⟩ = some b ∧ w.cell? ⟨db, 1, none⟩ = some (.int .i64 t) ∧ w.cell? ⟨db, 3, none⟩ = some err ∧ w.cell? ⟨db, 4, none⟩ = some (.int .i64 ea) ∧ ∀ j, w.frozen? ⟨db, j, none⟩ = false := by
  refine ⟨?_, ?_, ?_, ?_, fun j => ?_⟩ <;> simp [World.cell?, World.frozen?, h, dec]

theorem heap_setCell_at {w : World} {L j : Nat} {cs : Array Value} {e : TypeId} {fr : Nat × Nat} (h : w.heap[L]? = some (.cells cs e fr)) (u : Value) : (w.setCell ⟨L, j, none⟩ u).heap[L]? = some (.cells (cs.setIfInBounds j u) e fr) := by
  simp [World.setCell, Array.getElem?_modify, h]

set_option maxRecDepth 100000 in
set_option maxHeartbeats 400000 in
theorem failAt_calls (db vb : Nat) (b : Value) (t : Int) (ea at_ : Int) (a : Addr) (s : ByteArray) (w : World) (hd : w.heap[db]? = some (.cells (dec b t .nilIface ea) 30 (0, 0)))
    (hv : w.cell? ⟨vb, 0, none⟩ = some (.iface 38 (.pointer (some a)))) (hs : w.cell? a = some (.string s)) :
    Calls Ybaf.prog 11 #[.pointer (some ⟨db, 0, none⟩), .int .i64 at_, .string ⟨#[37, 118]⟩, .slice (some ⟨vb, 0, none⟩) 1 1] w fun e w' =>
      e = .returned (.tuple #[]) ∧ (∃ x, w'.heap[db]? = some (.cells (dec b t (.iface 38 x) at_) 30 (0, 0))) ∧ Below db w w' := by
  have hdl : db < w.heap.size := (Array.getElem?_eq_some_iff.1 hd).1
  obtain ⟨c0, c1, c3, c4, fz⟩ := dec_cell hd
  have HD : Hid _ := hd
  clear hd
  go_enter Ybaf.func11, Ybaf.ntmps11
  go_wp2_with fail
  refine (errorf_v vb a s w hv hs).mono ?_
  rintro e w1 ⟨rfl, hb1⟩
  have hd1 : w1.heap[db]? = some (.cells (dec b t .nilIface ea) 30 (0, 0)) := (hb1.block db hdl).trans HD.out
  obtain ⟨k0, k1, k3, k4, fk⟩ := dec_cell hd1
  have HD1 : Hid _ := hd1
  clear hd1
  clear c0 c1 c3 c4 fz
  go_wp2
  go_end0
  refine ⟨rfl, ⟨.pointer (some ⟨w.heap.size, 0, none⟩), ?_⟩, ?_⟩
  · have e1 := heap_setCell_at (heap_setCell_at (j := 3) HD1.out (.iface 38 (.pointer (some ⟨w.heap.size, 0, none⟩)))) (j := 4) (.int .i64 at_)
    simpa [dec] using e1
  · exact ((hb1.mono (Nat.le_of_lt hdl)).setCell (Nat.le_refl _) _).setCell (Nat.le_refl _) _

set_option maxRecDepth 100000 in
/-- An earlier error: nothing is read. -/
theorem dec_pre (db : Nat) (b : Value) (t ea : Int) (T : TypeId) (x : Value) (w : World) (hd : w.heap[db]? = some (.cells (dec b t (.iface T x) ea) 30 (0, 0))) :
    Calls Ybaf.prog 7 #[.pointer (some ⟨db, 0, none⟩)] w fun e w' => e = .returned (.int .u64 0) ∧ w = w' := by
  obtain ⟨c0, c1, c3, c4, fz⟩ := dec_cell hd
  clear hd
  go_enter Ybaf.func7, Ybaf.ntmps7
  go_wp2
  go_ret
  exact ⟨rfl, rfl⟩

/-- 'b[t:]' as the walk spells its address. -/
def cutAt (g c t : Nat) : Option Addr := if c = t then some ⟨g, 0, none⟩ else some ⟨g, t, none⟩

set_option maxRecDepth 100000 in
set_option maxHeartbeats 400000 in
theorem dec_ok (db : Nat) (g n c t : Nat) (ea : Int) (ht : t ≤ n) (hn : n ≤ c) (hc : c ≤ 9223372036854775807) (w : World) (hd : w.heap[db]? = some (.cells (dec (.slice (some ⟨g, 0, none⟩) n c) t .nilIface ea) 30 (0, 0)))
    (v k : Nat) (hk : t + k ≤ n) (hl : ∀ q, Calls Ybaf.prog 10 #[.slice (cutAt g c t) (n - t) (c - t)] (w.drewN q) fun e w' => e = .returned (.tuple #[.int .u64 v, .int .i64 k, .nilIface]) ∧ ∃ m, w' = (w.drewN q).drewN m) :
    Calls Ybaf.prog 7 #[.pointer (some ⟨db, 0, none⟩)] w fun e w' => e = .returned (.int .u64 v) ∧ w'.heap[db]? = some (.cells (dec (.slice (some ⟨g, 0, none⟩) n c) (t + k : Nat) .nilIface ea) 30 (0, 0)) ∧ Below db w w' := by
  obtain ⟨c0, c1, c3, c4, fz⟩ := dec_cell hd
  have HD : Hid _ := hd
  unfold cutAt at hl
  have HL : Hid _ := hl
  clear hd hl
  have htn : (t : Int) ≤ (n : Int) := by omega
  have htc : (t : Int) ≤ (c : Int) := by omega
  go_enter Ybaf.func7, Ybaf.ntmps7
  go_wp2
  go_quiet (first | (go_at_call 10; exact Calls.quiet_of (HL.out _)))
  generalize (if c = t then some (⟨g, 0, none⟩ : Addr) else some ⟨g, t, none⟩) = ao
  go_wp2
  go_ret
  refine ⟨rfl, ?_, ?_⟩
  · have hd' : (w.drewN nq).heap[db]? = some (.cells (dec (.slice (some ⟨g, 0, none⟩) n c) t .nilIface ea) 30 (0, 0)) := HD.out
    have e1 := heap_setCell_at (j := 1) hd' (.int .i64 ((t + k : Nat) : Int))
    simpa [dec] using e1
  · exact (below_drewN (Below.refl db w) nq).setCell (p := ⟨db, 1, none⟩) (Nat.le_refl db) _

set_option maxRecDepth 100000 in
set_option maxHeartbeats 400000 in
theorem dec_bad (db : Nat) (g n c t : Nat) (ea : Int) (ht : t ≤ n) (hn : n ≤ c) (w : World) (hd : w.heap[db]? = some (.cells (dec (.slice (some ⟨g, 0, none⟩) n c) t .nilIface ea) 30 (0, 0)))
    (a : Addr) (s : ByteArray) (hs : w.cell? a = some (.string s)) (hl : ∀ q, Calls Ybaf.prog 10 #[.slice (cutAt g c t) (n - t) (c - t)] (w.drewN q) fun e w' => e = .returned (.tuple #[.int .u64 0, .int .i64 0, .iface 38 (.pointer (some a))]) ∧ ∃ m, w' = (w.drewN q).drewN m) :
    Calls Ybaf.prog 7 #[.pointer (some ⟨db, 0, none⟩)] w fun e w' => e = .returned (.int .u64 0) ∧ (∃ x, w'.heap[db]? = some (.cells (dec (.slice (some ⟨g, 0, none⟩) n c) t (.iface 38 x) t) 30 (0, 0))) ∧ Below db w w' := by
  have hdl : db < w.heap.size := (Array.getElem?_eq_some_iff.1 hd).1
  obtain ⟨c0, c1, c3, c4, fz⟩ := dec_cell hd
  have HD : Hid _ := hd
  unfold cutAt at hl
  have HL : Hid _ := hl
  clear hd hl
  have htn : (t : Int) ≤ (n : Int) := by omega
  have htc : (t : Int) ≤ (c : Int) := by omega
  go_enter Ybaf.func7, Ybaf.ntmps7
  go_wp2
  go_quiet (first | (go_at_call 10; exact Calls.quiet_of (HL.out _)))
  generalize (if c = t then some (⟨g, 0, none⟩ : Addr) else some ⟨g, t, none⟩) = ao
  go_wp2_with fail
  refine (failAt_calls db w.heap.size (.slice (some ⟨g, 0, none⟩) n c) t ea t a s ((w.drewN nq).alloc (.cells #[.iface 38 (.pointer (some a))] 20)) ?_ ?_ ?_).mono ?_
  · rw [Below.heap_alloc (w.drewN nq) _ db hdl]; exact HD.out
  · exact World.cell?_alloc_new _ _ _ _
  · exact (World.grownBy_alloc (w.drewN nq) _ none).cell (a := a) hs (by simp)
  rintro e w1 ⟨rfl, ⟨x, hx⟩, hb1⟩
  have HX : Hid _ := hx
  clear hx
  go_wp2
  go_ret
  exact ⟨rfl, ⟨x, HX.out⟩, ((below_drewN (Below.refl _ w) nq).alloc (Nat.le_of_lt hdl) _).trans hb1⟩
end Go.Proofs.YbulkxjwFmt
