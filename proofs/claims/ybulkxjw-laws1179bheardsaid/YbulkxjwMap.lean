/-
  A MAP KEYED BY int WHOSE ELEMENTS ARE WHATEVER VALUES, AS A FUNCTION FROM NUMBERS TO VALUES. Over the kit's 'ownsMap' with a reader that reads every value as a token of itself.
-/
import Derived.Test.YbulkxjwRows
import Derived.WalkKit
import Derived.Maps.Own
import Derived.Maps.OwnOps
import Derived.Maps.OwnSet
namespace Go.Proofs.Ybulkxjw
open Go.RowKit Go.Maps

/-- Every value reads as a token of itself. -/
def tok (v : Value) : Option (DataW Value × List MemPlace) := some (.held v, [])

theorem law3 : Keyed Yba.prog 3 := int_keyed Yba.underlying3

/-- BLOCK b IS A MAP KEYED BY int, of at most n entries, zero element z, that answers f. -/
def IsM (w : World) (b n : Nat) (z : Value) (f : Int → Value) : Prop :=
  ∃ D, w.ownsMap Yba.prog 3 tok b n D ∧ IsMap D ∧ ∀ a, (Lit.int .i64 a).wf = true → D.atKey (.int .i64 a) (.held z) = .held (f a)

/-- f with v at a. -/
def upd (f : Int → Value) (a : Int) (v : Value) : Int → Value := fun x => if x = a then v else f x

theorem isM_made (w : World) (z : Value) : IsM (w.alloc (.map #[] 0)) w.heap.size 0 z (fun _ => z) :=
  ⟨_, World.ownsMap_made _ _ _ _, ⟨_, rfl⟩, fun _ _ => rfl⟩

theorem IsM.lt {w : World} {b n : Nat} {z : Value} {f : Int → Value} (h : IsM w b n z f) : b < w.heap.size := by
  obtain ⟨D, h1, _⟩ := h
  exact h1.lt

theorem IsM.kept {w w' : World} {b n : Nat} {z : Value} {f : Int → Value} {row : Option Nat} (h : IsM w b n z f) (hg : w.grownBy w' row) (hne : some b ≠ row) : IsM w' b n z f := by
  obtain ⟨D, h1, h2⟩ := h
  exact ⟨D, h1.kept hg hne, h2⟩

theorem IsM.block {w w' : World} {b n : Nat} {z : Value} {f : Int → Value} (h : IsM w b n z f) (hg : w'.heap[b]? = w.heap[b]?) : IsM w' b n z f := by
  obtain ⟨D, ⟨es, clock, hb, r⟩, h2⟩ := h
  exact ⟨D, ⟨es, clock, hg.trans hb, r⟩, h2⟩

theorem IsM.look {w : World} {b n : Nat} {z : Value} {f : Int → Value} (h : IsM w b n z f) {t e : TypeId} (ht : Yba.prog.underlying t = some (.map 3 e)) (hz : (zeroValue e).run Yba.prog w = .ok z w)
    {a : Int} (ha : (Lit.int .i64 a).wf = true) : (Instr.lookup t (.map (some b)) (.int .i64 a) false).run Yba.prog w = .ok (f a) w := by
  obtain ⟨D, h1, _, h3⟩ := h
  obtain ⟨v, ps, hrun, hv⟩ := h1.lookup (zd := .held z) (zp := []) law3 ht hz rfl (keyOf_int_mk Yba.underlying3 ha)
  rw [h3 a ha] at hv
  simp only [tok, Option.some.injEq, Prod.mk.injEq, DataW.held.injEq] at hv
  rw [hrun, hv.1]

theorem IsM.store {w : World} {b n : Nat} {z : Value} {f : Int → Value} (h : IsM w b n z f) {t e : TypeId} (ht : Yba.prog.underlying t = some (.map 3 e)) (hn : n < maxLen)
    {a : Int} (ha : (Lit.int .i64 a).wf = true) (v : Value) : ∃ w', (Instr.mapUpdate t (.map (some b)) (.int .i64 a) v).run Yba.prog w = .ok () w' ∧ IsM w' b (n + 1) z (upd f a v) ∧ w.grownBy w' (some b) := by
  obtain ⟨D, h1, h2, h3⟩ := h
  have hk : keyOf Yba.prog 3 (.int .i64 a) = some (.int .i64 a) := keyOf_int_mk Yba.underlying3 ha
  obtain ⟨w', hrun, hown, hg⟩ := h1.update (val := v) (d := .held v) (ps := []) law3 ht hn hk rfl
  refine ⟨w', hrun, ⟨_, hown, h2.put _ _, fun x hx => ?_⟩, hg⟩
  unfold upd
  by_cases hxa : x = a
  · subst hxa
    rw [if_pos rfl, atKey_put_same h2 (law3.key hk)]
  · rw [if_neg hxa, atKey_put_other (fun e => hxa (by injection e)), h3 x hx]

/-- 'm[k]' at the operation. -/
theorem wpList_look (w : World) {ops : Array Oper} {rest : List Oper} {o : Oper} {a : Act} {Q : Exit → Act → World → Prop}
    (hg : o.guard = none) (m x : Operand) (t e : TypeId) (hop : o.op = Op.lookup t m x false) (ht : Yba.prog.underlying t = some (.map 3 e)) (b n : Nat) (z : Value) (f : Int → Value) (k : Int)
    (hm : a.eval m = .map (some b)) (hx : a.eval x = .int .i64 k) (h : IsM w b n z f) (hz : (zeroValue e).run Yba.prog w = .ok z w) (hk : (Lit.int .i64 k).wf = true)
    (hK : wpList Yba.prog ops Q rest (a.put o.dst (f k)) w) : wpList Yba.prog ops Q (o :: rest) a w := by
  refine wpList_plain hg fun K' hK' => ?_
  unfold Oper.wp
  simp [execOp, hop, hm, hx, h.look ht hz hk, Result.andThen]
  exact hK' _ _ hK

/-- 'm[k]' at the operation, m nil. -/
theorem wpList_look_nil (w : World) {ops : Array Oper} {rest : List Oper} {o : Oper} {a : Act} {Q : Exit → Act → World → Prop}
    (hg : o.guard = none) (m x : Operand) (t e : TypeId) (hop : o.op = Op.lookup t m x false) (ht : Yba.prog.underlying t = some (.map 3 e)) (z : Value) (k : Int)
    (hm : a.eval m = .map none) (hx : a.eval x = .int .i64 k) (hz : (zeroValue e).run Yba.prog w = .ok z w) (hk : (Lit.int .i64 k).wf = true)
    (hK : wpList Yba.prog ops Q rest (a.put o.dst z) w) : wpList Yba.prog ops Q (o :: rest) a w := by
  refine wpList_plain hg fun K' hK' => ?_
  have hrun := Maps.look_nil (w := w) false law3 ht hz (keyOf_int_mk Yba.underlying3 hk)
  unfold Oper.wp
  simp [execOp, hop, hm, hx, hrun, Result.andThen]
  exact hK' _ _ hK

/-- 'm[k] = v' at the operation. -/
theorem wpList_store (w : World) {ops : Array Oper} {rest : List Oper} {o : Oper} {a : Act} {Q : Exit → Act → World → Prop}
    (hg : o.guard = none) (m x v : Operand) (t e : TypeId) (hop : o.op = Op.mapUpdate t m x v) (ht : Yba.prog.underlying t = some (.map 3 e)) (b n : Nat) (z : Value) (f : Int → Value) (k : Int) (val : Value)
    (hm : a.eval m = .map (some b)) (hx : a.eval x = .int .i64 k) (hv : a.eval v = val) (h : IsM w b n z f) (hn : n < maxLen) (hk : (Lit.int .i64 k).wf = true)
    (hK : ∀ w', IsM w' b (n + 1) z (upd f k val) → w.grownBy w' (some b) → wpList Yba.prog ops Q rest (a.put o.dst undef) w') : wpList Yba.prog ops Q (o :: rest) a w := by
  refine wpList_plain hg fun K' hK' => ?_
  obtain ⟨w', hrun, r1, r2⟩ := h.store ht hn hk val
  unfold Oper.wp
  simp [execOp, hop, hm, hx, hv, hrun, Result.andThen]
  exact hK' _ _ (hK w' r1 r2)

end Go.Proofs.Ybulkxjw
