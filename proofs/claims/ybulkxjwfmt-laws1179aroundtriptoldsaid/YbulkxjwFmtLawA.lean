import Derived.Test.YbulkxjwFmtDec
import Derived.Test.YbulkxjwFmtModel
import Derived.LaidEql
namespace Go.Proofs.YbulkxjwFmt
open Go.RowKit

theorem Sent.kept {w w' : World} (h : Sent w) (hb : Below w.heap.size w w') : Sent w' := by
  intro i hi
  obtain ⟨a, s, h1, h2⟩ := h i hi
  refine ⟨a, s, ?_, ?_⟩
  · rw [hb.cell (World.block_lt_of_cell? _ _ h1)]; exact h1
  · rw [hb.cell (World.block_lt_of_cell? _ _ h2)]; exact h2

/-- The rest of an owned row of bytes, as the walk cuts it. -/
theorem at_cut {w : World} {base g n c : Nat} {l : List UInt8} (h : w.ownsRow base 5 1 (.slice (some ⟨g, 0, none⟩) n c) n (Lib.byteCells l)) {t : Nat} (ht : t ≤ n) : At w (cutAt g c t) (n - t) (l.drop t) := by
  have hl : l.length = n := by have := h.1; simp [Lib.byteCells] at this; omega
  have hnc : n ≤ c := by
    rcases h.2 with ⟨e, _⟩ | ⟨g', c', cur, e, _, _, hc, _⟩
    · cases e
    · simp only [Value.slice.injEq] at e; omega
  refine ⟨by simp; omega, fun h0 => ⟨g, t, by unfold cutAt; rw [if_neg (by omega)], fun j hj => ?_⟩⟩
  have hj' : t + j < l.length := by simp at hj; omega
  rw [World.ownsRow.cellAt h (t + j) (by omega)]
  simp [Lib.byteCells, hj']

theorem eql_same (a : Addr) (w : World) : (binOp .eql 26 (.iface 38 (.pointer (some a))) (.iface 38 (.pointer (some a)))).run Ybaf.prog w = .ok (.bool true) w :=
  run_eql_iface_ptr_same (i := Ybaf.t38) (j := Ybaf.t40) w a Ybaf.underlying26 Ybaf.underlying38 (by kernel_rfl) (by kernel_rfl) (by kernel_rfl)

set_option maxRecDepth 100000 in
theorem new_calls (s : ByteArray) (w : World) : Calls Ybaf.prog 6 #[.string s] w fun e w' => e = .returned (.iface 38 (.pointer (some ⟨w.heap.size, 0, none⟩))) ∧ w.alloc (.cells #[.string s] 40) = w' := by
  go_enter Ybaf.func6, Ybaf.ntmps6
  go_wp2
  go_ret
  exact ⟨rfl, rfl⟩

theorem below_al {w w' : World} (h : Below w.heap.size w w') (o : Obj) : Below w.heap.size w (w'.alloc o) := h.alloc h.size o

set_option maxRecDepth 100000 in
set_option maxHeartbeats 1000000 in
/-- With an earlier error. -/
theorem lawA_pre (a0 : Option Addr) (len cap : Nat) (hlen : len ≤ 1024) (l : List UInt8) (at_ : Int) (h0 : 0 ≤ at_) (h1 : at_ ≤ 65535) (preAt : Int) (w : World) (hb : Bytes w a0 len l) :
    Calls Ybaf.prog 3 #[.slice a0 len cap, .int .u16 at_, .bool true, .int .i64 preAt] w fun e w' => e = .returned (.bool true) ∧ Below w.heap.size w w' := by
  have hlenD : decide ((1024 : Int) < (len : Int)) = false := decide_eq_false (by omega)
  have eq0 := eql_same
  go_enter Ybaf.func3, Ybaf.ntmps3
  go_wp2_with fail
  refine (clone_calls a0 len cap hlen l w hb).mono ?_
  rintro e w1 ⟨rfl, hown, hb1⟩
  go_wp2_with fail
  refine (new_calls _ w1).mono ?_
  rintro e w2 ⟨rfl, rfl⟩
  go_wp2_with fail
  refine (dec_pre (w1.heap.size + 1) (.slice (some ⟨w.heap.size, 0, none⟩) len len) (at_ % ((len : Int) + 1)) preAt 38 (.pointer (some ⟨w1.heap.size, 0, none⟩)) _ ?_).mono ?_
  · have hsz : (w1.alloc (.cells #[.string ⟨#[101, 97, 114, 108, 105, 101, 114]⟩] 40)).heap.size = w1.heap.size + 1 := by simp
    rw [← hsz]
    exact heap_alloc_new _ _
  rintro e w3 ⟨rfl, rfl⟩
  go_wp2
  go_ret
  exact ⟨rfl, below_al (below_al hb1 _) _⟩

theorem row_below {w w' : World} {base n D g c : Nat} {xs : List Value} (h : w.ownsRow base 5 1 (.slice (some ⟨g, 0, none⟩) n c) n xs) (hb : Below D w w') (hg : g < D) : w'.ownsRow base 5 1 (.slice (some ⟨g, 0, none⟩) n c) n xs := by
  refine ⟨h.1, ?_⟩
  rcases h.2 with ⟨e, _⟩ | ⟨g', c', cur, e, hbb, hh, r⟩
  · cases e
  · simp only [Value.slice.injEq, Option.some.injEq, Addr.mk.injEq] at e
    obtain ⟨⟨rfl, _, _⟩, _, rfl⟩ := e
    exact .inr ⟨g, c, cur, rfl, hbb, (hb.block g hg).trans hh, r⟩

theorem uv_ok_q (ao : Option Addr) (n c : Nat) (hn : n ≤ 9223372036854775807) (l : List UInt8) (w : World) (h : At w ao n l) (v k : Nat) (hr : reader 0 l (Lib.uvarintDec l) = (v, k, true)) :
    ∀ q, Calls Ybaf.prog 10 #[.slice ao n c] (w.drewN q) fun e w' => e = .returned (.tuple #[.int .u64 v, .int .i64 k, .nilIface]) ∧ ∃ m, w' = (w.drewN q).drewN m :=
  fun q => (uv_ok ao n c hn l (w.drewN q) h v k hr).mono fun _ _ hh => ⟨hh.1, 0, hh.2.symm⟩

theorem heap_two (w : World) (o1 : Obj) : (w.alloc o1).heap[w.heap.size]? = some o1 := heap_alloc_new _ _

set_option maxRecDepth 100000 in
set_option maxHeartbeats 1000000 in
/-- No earlier error, and the varint is read. -/
theorem lawA_ok (a0 : Option Addr) (len cap : Nat) (hlen : len ≤ 1024) (l : List UInt8) (at_ : Int) (h0 : 0 ≤ at_) (h1 : at_ ≤ 65535) (preAt : Int) (t : Nat) (ht : at_ % ((len : Int) + 1) = (t : Int)) (htl : t ≤ len) (w : World) (hb : Bytes w a0 len l)
    (v k : Nat) (hr : reader 0 (l.drop t) (Lib.uvarintDec (l.drop t)) = (v, k, true)) (hk1 : 1 ≤ k) (hk : t + k ≤ len) :
    Calls Ybaf.prog 3 #[.slice a0 len cap, .int .u16 at_, .bool false, .int .i64 preAt] w fun e w' => e = .returned (.bool true) ∧ Below w.heap.size w w' := by
  have hlenD : decide ((1024 : Int) < (len : Int)) = false := decide_eq_false (by omega)
  have HT : Hid _ := ht
  have HR : Hid _ := hr
  clear ht hr
  go_enter Ybaf.func3, Ybaf.ntmps3
  go_wp2_with fail
  refine (clone_calls a0 len cap hlen l w hb).mono ?_
  rintro e w1 ⟨rfl, hown, hb1⟩
  have hgw : w.heap.size < w1.heap.size := (hown.lt _ rfl).2
  go_wp2_with fail
  rw [HT.out]
  have hown2 := hown.alloc (.cells #[.slice (some ⟨w.heap.size, 0, none⟩) len len, .int .i64 t, .int .i64 8, .nilIface, .int .i64 preAt] 30)
  have hd2 : (w1.alloc (.cells #[.slice (some ⟨w.heap.size, 0, none⟩) len len, .int .i64 t, .int .i64 8, .nilIface, .int .i64 preAt] 30)).heap[w1.heap.size]? = some (.cells (dec (.slice (some ⟨w.heap.size, 0, none⟩) len len) t .nilIface preAt) 30 (0, 0)) := heap_two w1 _
  have hat := at_cut hown2 htl
  have hu := uv_ok_q _ (len - t) (len - t) (by omega) (l.drop t) _ hat v k HR.out
  refine (dec_ok w1.heap.size w.heap.size len len t preAt htl (Nat.le_refl _) (by omega) (w1.alloc (.cells #[.slice (some ⟨w.heap.size, 0, none⟩) len len, .int .i64 t, .int .i64 8, .nilIface, .int .i64 preAt] 30)) hd2 v k hk hu).mono ?_
  rintro e w3 ⟨rfl, hd3, hb3⟩
  have hown3 := row_below hown2 hb3 hgw
  have hat3 := at_cut hown3 htl
  obtain ⟨c0, c1, c3, c4, fz⟩ := dec_cell hd3
  have htn : (t : Int) ≤ (len : Int) := by omega
  clear hown hown2 hd2 hat hd3 hown3 hu
  have hne : ¬ len = t := by omega
  unfold cutAt at hat3
  rw [if_neg hne] at hat3
  have HA : Hid _ := hat3
  clear hat3 hb
  go_wp2_with fail
  refine (model_calls (some ⟨w.heap.size, t, none⟩) (len - t) (len - t) (by omega) (l.drop t) w3 HA.out).mono ?_
  rintro e w4 ⟨rfl, rfl⟩
  rw [model_from]
  rw [show reader 0 (l.drop t) (Lib.uvarintFrom 0 0 (l.drop t)) = (v, k, true) from HR.out]
  go_wp2
  go_ret
  exact ⟨rfl, (below_al hb1 _).trans (hb3.mono (Nat.le_of_lt hgw))⟩

set_option maxRecDepth 100000 in
set_option maxHeartbeats 1000000 in
/-- No earlier error, and the varint is refused. -/
theorem lawA_bad (a0 : Option Addr) (len cap : Nat) (hlen : len ≤ 1024) (l : List UInt8) (at_ : Int) (h0 : 0 ≤ at_) (h1 : at_ ≤ 65535) (preAt : Int) (t : Nat) (ht : at_ % ((len : Int) + 1) = (t : Int)) (htl : t ≤ len) (w : World) (hb : Bytes w a0 len l) (hs : Sent w)
    (hr : (reader 0 (l.drop t) (Lib.uvarintDec (l.drop t))).2.2 = false) :
    Calls Ybaf.prog 3 #[.slice a0 len cap, .int .u16 at_, .bool false, .int .i64 preAt] w fun e w' => e = .returned (.bool true) ∧ Below w.heap.size w w' := by
  have hlenD : decide ((1024 : Int) < (len : Int)) = false := decide_eq_false (by omega)
  have HT : Hid _ := ht
  have HR : Hid _ := hr
  have hll := hb.1
  clear ht hr
  go_enter Ybaf.func3, Ybaf.ntmps3
  go_wp2_with fail
  refine (clone_calls a0 len cap hlen l w hb).mono ?_
  rintro e w1 ⟨rfl, hown, hb1⟩
  have hgw : w.heap.size < w1.heap.size := (hown.lt _ rfl).2
  go_wp2_with fail
  rw [HT.out]
  have hown2 := hown.alloc (.cells #[.slice (some ⟨w.heap.size, 0, none⟩) len len, .int .i64 t, .int .i64 8, .nilIface, .int .i64 preAt] 30)
  have hd2 : (w1.alloc (.cells #[.slice (some ⟨w.heap.size, 0, none⟩) len len, .int .i64 t, .int .i64 8, .nilIface, .int .i64 preAt] 30)).heap[w1.heap.size]? = some (.cells (dec (.slice (some ⟨w.heap.size, 0, none⟩) len len) t .nilIface preAt) 30 (0, 0)) := heap_two w1 _
  have hat := at_cut hown2 htl
  have hs2 : Sent (w1.alloc (.cells #[.slice (some ⟨w.heap.size, 0, none⟩) len len, .int .i64 t, .int .i64 8, .nilIface, .int .i64 preAt] 30)) := hs.kept (below_al hb1 _)
  obtain ⟨a, s, hsa, hu⟩ := uv_bad _ (len - t) (len - t) (by omega) (l.drop t) _ hat hs2 HR.out
  refine (dec_bad w1.heap.size w.heap.size len len t preAt htl (Nat.le_refl _) (w1.alloc (.cells #[.slice (some ⟨w.heap.size, 0, none⟩) len len, .int .i64 t, .int .i64 8, .nilIface, .int .i64 preAt] 30)) hd2 a s hsa hu).mono ?_
  rintro e w3 ⟨rfl, ⟨x, hd3⟩, hb3⟩
  have hown3 := row_below hown2 hb3 hgw
  have hat3 := at_cut hown3 htl
  obtain ⟨c0, c1, c3, c4, fz⟩ := dec_cell hd3
  have htn : (t : Int) ≤ (len : Int) := by omega
  clear hown hown2 hd2 hat hd3 hown3 hu hsa hs2
  unfold cutAt at hat3
  have HA : Hid _ := hat3
  have hmod : ∃ v k, modelFrom 0 0 (l.drop t) = (v, k, false) := by
    rw [model_from]
    have hq : (reader 0 (l.drop t) (Lib.uvarintFrom 0 0 (l.drop t))).2.2 = false := HR.out
    exact ⟨_, _, Prod.ext rfl (Prod.ext rfl hq)⟩
  obtain ⟨v, k, hm⟩ := hmod
  have HM : Hid _ := hm
  clear hat3 hb hs hm HR HT
  by_cases hne : len = t
  · have hL : l.drop t = [] := List.drop_eq_nil_of_le (by omega)
    go_wp2_with fail
    refine (model_calls (some ⟨w.heap.size, 0, none⟩) 0 0 (by omega) (l.drop t) w3 ⟨by rw [hL]; rfl, fun h => absurd h (Nat.lt_irrefl _)⟩).mono ?_
    rintro e w4 ⟨rfl, rfl⟩
    rw [HM.out]
    clear hL
    go_wp2
    go_ret
    exact ⟨rfl, (below_al hb1 _).trans (hb3.mono (Nat.le_of_lt hgw))⟩
  · rw [if_neg hne] at HA
    go_wp2_with fail
    refine (model_calls (some ⟨w.heap.size, t, none⟩) (len - t) (len - t) (by omega) (l.drop t) w3 HA.out).mono ?_
    rintro e w4 ⟨rfl, rfl⟩
    rw [HM.out]
    go_wp2
    go_ret
    exact ⟨rfl, (below_al hb1 _).trans (hb3.mono (Nat.le_of_lt hgw))⟩
end Go.Proofs.YbulkxjwFmt
