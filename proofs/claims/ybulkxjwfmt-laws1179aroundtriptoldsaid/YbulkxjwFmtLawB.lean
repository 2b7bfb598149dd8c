/-
  LawS1179ARoundTrip, walked.
-/
import Derived.Test.YbulkxjwFmtLawA
import Derived.Laws.AppendOwnNone
namespace Go.Proofs.YbulkxjwFmt
open Go.RowKit

/-- What is owned, not nil: its head. -/
theorem own_head {w : World} {base n : Nat} {v : Value} {xs : List Value} (h : w.ownsRow base 5 1 v n xs) (hn : 0 < n) : ∃ g cap, v = .slice (some ⟨g, 0, none⟩) n cap ∧ base ≤ g ∧ g < w.heap.size ∧ n ≤ cap ∧ cap ≤ maxLen := by
  rcases h.2 with ⟨_, h0⟩ | ⟨g, cap, cur, rfl, hb, hg, hc, hm, _⟩
  · omega
  · exact ⟨g, cap, rfl, hb, (Array.getElem?_eq_some_iff.1 hg).1, hc, hm⟩

theorem append_calls (B n x : Nat) (hx : x < 18446744073709551616) (sv : Value) (xs : List Value) (w : World) (hown : w.ownsRow B 5 1 sv n xs) (hBw : B ≤ w.heap.size) (hlim : n + 10 ≤ 140737488355328) :
    Calls Ybaf.prog 9 #[sv, .int .u64 x] w fun e w' => ∃ g cap, e = .returned (.slice (some ⟨g, 0, none⟩) (n + (Lib.uvarint x).length) cap) ∧
      w'.ownsRow B 5 1 (.slice (some ⟨g, 0, none⟩) (n + (Lib.uvarint x).length) cap) (n + (Lib.uvarint x).length) (xs ++ Lib.byteCells (Lib.uvarint x)) ∧ Below B w w' := by
  refine (Ybaf.binary_AppendUvarint B n x hx sv xs w hown hBw hlim).mono fun e w' ⟨v', he, ho, hb⟩ => ?_
  have hp := Lib.uvarint_pos x
  obtain ⟨g, cap, rfl, _⟩ := own_head ho (by omega)
  exact ⟨g, cap, he, ho, hb⟩

/-- 'append(buf, tail...)', buf the call's own and not empty, tail whatever came in. -/
theorem wpList_tail {w : World} {ops : Array Oper} {rest : List Oper} {o : Oper} {a : Act} {Q : Exit → Act → World → Prop} (hgd : o.guard = none) (s x : Operand)
    (ho : o.op = .call { callee := .builtin .append, args := #[s, x], argTypes := #[22, 22] })
    (base g n cap : Nat) (hn : 0 < n) (xs : List Value) (hs : a.eval s = .slice (some ⟨g, 0, none⟩) n cap) (hown : w.ownsRow base 5 1 (.slice (some ⟨g, 0, none⟩) n cap) n xs)
    (ao : Option Addr) (m c : Nat) (l : List UInt8) (hx : a.eval x = .slice ao m c) (hnil : ao = none → m = 0 ∧ c = 0) (hb : Bytes w ao m l) (hlim : n + m ≤ 140737488355328) (hbase : base ≤ w.heap.size)
    (h : ∀ g' cap' w', w'.ownsRow base 5 1 (.slice (some ⟨g', 0, none⟩) (n + m) cap') (n + m) (xs ++ Lib.byteCells l) → w.grownBy w' (some g) → wpList Ybaf.prog ops Q rest (a.put o.dst (.slice (some ⟨g', 0, none⟩) (n + m) cap')) w') :
    wpList Ybaf.prog ops Q (o :: rest) a w := by
  obtain ⟨i0, hi, hz0, hz1, hz2⟩ := info_parts info5
  cases ao with
  | none =>
    obtain ⟨rfl, rfl⟩ := hnil rfl
    obtain rfl : l = [] := List.eq_nil_of_length_eq_zero hb.1
    refine wpList_append_own_none hgd s x 22 ho base 5 i0 1 Ybaf.underlying22 hi _ n xs hs hown hx ?_
    exact h g cap w (by simpa [Lib.byteCells] using hown) (World.grownBy.refl _ _)
  | some ad =>
    refine wpList_append_own w hgd s x 22 ho base 5 i0 (.int .u8 0) 1 1 Ybaf.underlying22 hi hz0 hz1 hz2 rfl (by decide) _ n xs hs hown ad m c (Lib.byteCells l) hx (by rw [byteCells_length, hb.1]; omega) ?_ (byteCells_one l)
      (by unfold maxLen; omega) (by omega) hbase ?_
    · intro j u hu
      have hlt : j < (Lib.byteCells l).length := (List.getElem?_eq_some_iff.1 hu).1
      rw [byteCells_length, hb.1] at hlt
      obtain ⟨ad', e, hc⟩ := hb.2 (by omega)
      cases e
      exact hc j u hu
    · intro v' w' h1 h2 _
      obtain ⟨g', cap', rfl, _⟩ := own_head h1 (by omega)
      exact h g' cap' w' h1 h2

set_option maxRecDepth 100000 in
set_option maxHeartbeats 1000000 in
theorem lawB_go (a0 : Option Addr) (len cap : Nat) (hlen : len ≤ 1024) (l : List UInt8) (v : Nat) (hv : v < 18446744073709551616) (a2 : Option Addr) (len2 cap2 : Nat) (hlen2 : len2 ≤ 1024) (l2 : List UInt8) (hnil : a2 = none → len2 = 0 ∧ cap2 = 0)
    (w : World) (hb : Bytes w a0 len l) (hb2 : Bytes w a2 len2 l2) :
    Calls Ybaf.prog 4 #[.slice a0 len cap, .int .u64 v, .slice a2 len2 cap2] w fun e w' => e = .returned (.bool true) ∧ Below w.heap.size w w' := by
  have hlenD : decide ((1024 : Int) < (len : Int)) = false := decide_eq_false (by omega)
  have hlenD2 : decide ((1024 : Int) < (len2 : Int)) = false := decide_eq_false (by omega)
  have hp := Lib.uvarint_pos v
  have hp10 := Lib.uvarint_length64 hv
  go_enter Ybaf.func4, Ybaf.ntmps4
  go_wp2_with fail
  refine (clone_calls a0 len cap hlen l w hb).mono ?_
  rintro e w1 ⟨rfl, hown, hb1⟩
  go_wp2_with fail
  refine (append_calls w.heap.size len v hv _ _ w1 hown hb1.size (by omega)).mono ?_
  rintro e w2 ⟨g, c2, rfl, hown2, hb12⟩
  have hbel2 := hb1.trans hb12
  generalize hL : (Lib.uvarint v).length = L at hp hp10 hown2
  clear hown
  obtain ⟨g', _, e', hgB, hgl, _, _⟩ := own_head hown2 (by omega)
  have hgB' : w.heap.size ≤ g := by
    simp only [Value.slice.injEq, Option.some.injEq, Addr.mk.injEq] at e'
    omega
  clear e' hgB hgl
  have HL : Hid _ := hL
  clear hL
  go_wp2_with (at_builtin; refine wpList_tail rfl _ _ rfl w.heap.size g (len + L) c2 ?_ _ rfl hown2 a2 len2 cap2 l2 rfl hnil ?_ ?_ ?_ ?_)
  · omega
  · exact hb2.kept hbel2
  · omega
  · exact hbel2.size
  intro g3 c3 w3 hown3 hg3
  have hbel3 : Below w.heap.size w w3 := hbel2.grown hg3 hbel2.size (fun k hk => by cases hk; exact hgB')
  have hown4 : w3.ownsRow w.heap.size 5 1 (.slice (some ⟨g3, 0, none⟩) (len + L + len2) c3) (len + L + len2) (Lib.byteCells (l ++ (Lib.uvarint v ++ l2))) := by
    simpa [Lib.byteCells] using hown3
  obtain ⟨_, _, e3, _, _, hc3, hm3⟩ := own_head hown4 (by omega)
  obtain rfl : c3 = _ := by simp only [Value.slice.injEq] at e3; exact e3.2.2
  have hll := hb.1
  clear hown2 hown3 hg3 e3 hb hb2 hnil
  go_wp2_with fail
  have hown5 := hown4.alloc (.cells #[.slice (some ⟨g3, 0, none⟩) (len + L + len2) c3, .int .i64 len, .int .i64 8, .nilIface, .int .i64 0] 30)
  have hd5 : (w3.alloc (.cells #[.slice (some ⟨g3, 0, none⟩) (len + L + len2) c3, .int .i64 len, .int .i64 8, .nilIface, .int .i64 0] 30)).heap[w3.heap.size]? = some (.cells (dec (.slice (some ⟨g3, 0, none⟩) (len + L + len2) c3) len .nilIface 0) 30 (0, 0)) := heap_two w3 _
  have hat := at_cut hown5 (t := len) (by omega)
  have hdrop : (l ++ (Lib.uvarint v ++ l2)).drop len = Lib.uvarint v ++ l2 := by rw [← hll]; simp
  rw [hdrop] at hat
  have hr := reader_uvarint v l2 hv
  rw [HL.out] at hr
  unfold maxLen at hm3
  have hu := uv_ok_q _ (len + L + len2 - len) (c3 - len) (by omega) _ _ hat v L hr
  refine (dec_ok w3.heap.size g3 (len + L + len2) c3 len 0 (by omega) hc3 (by omega) (w3.alloc (.cells #[.slice (some ⟨g3, 0, none⟩) (len + L + len2) c3, .int .i64 len, .int .i64 8, .nilIface, .int .i64 0] 30)) hd5 v L (by omega) hu).mono ?_
  rintro e w6 ⟨rfl, hd6, hb6⟩
  obtain ⟨k0, k1, k3, k4, fz⟩ := dec_cell hd6
  clear hd6 hu hat hd5 hown5 hown4 hr hdrop hm3 hc3 hv
  have hkk : (len : Int) + (L : Int) - (len : Int) = (L : Int) := by omega
  rw [hkk]
  clear hkk
  go_wp2
  go_ret
  exact ⟨rfl, (below_al hbel3 _).trans (hb6.mono hbel3.size)⟩
end Go.Proofs.YbulkxjwFmt
