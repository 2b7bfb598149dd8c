/-
  A MAP KEYED BY uint16 WHOSE ELEMENTS ARE WHATEVER VALUES, AS A FUNCTION FROM NUMBERS TO VALUES. Over the kit's 'ownsMap' with a reader that reads every value as a token of itself.
-/
import Derived.Test.YbulkxkyRows
import Derived.WalkKit
import Derived.Maps.Own
import Derived.Maps.OwnOps
import Derived.Maps.OwnSet
namespace Go.Proofs.Ybulkxky
open Go.RowKit Go.Maps

/-- Every value reads as a token of itself. -/
def tok (v : Value) : Option (DataW Value × List MemPlace) := some (.held v, [])

theorem law25 : Keyed Yba.prog 25 := int_keyed Yba.underlying25

/-- BLOCK b IS A MAP KEYED BY uint16, of at most n entries, zero element z, that answers f. -/
def IsM (w : World) (b n : Nat) (z : Value) (f : Int → Value) : Prop :=
  ∃ D, w.ownsMap Yba.prog 25 tok b n D ∧ IsMap D ∧ ∀ a, (Lit.int .u16 a).wf = true → D.atKey (.int .u16 a) (.held z) = .held (f a)

/-- f with v at a. -/
def upd (f : Int → Value) (a : Int) (v : Value) : Int → Value := fun x => if x = a then v else f x

theorem isM_made (w : World) (z : Value) : IsM (w.alloc (.map #[] 0)) w.heap.size 0 z (fun _ => z) :=
  ⟨_, World.ownsMap_made _ _ _ _, ⟨_, rfl⟩, fun _ _ => rfl⟩

theorem IsM.lt {w : World} {b n : Nat} {z : Value} {f : Int → Value} (h : IsM w b n z f) : b < w.heap.size := by
  obtain ⟨D, h1, _⟩ := h
  exact h1.lt

theorem IsM.kept {w w' : World} {b n : Nat} {z : Value} {f : Int → Value} {row : Option Nat} (h : IsM w b n z f) (hg : w.grownBy w' row) (hne : some b ≠ row) : IsM w' b n z f := by
  obtain ⟨D, h1, h2⟩ := h
  exact ⟨D, h1.kept hg hne, h2⟩

theorem IsM.block {w w' : World} {b n : Nat} {z : Value} {f : Int → Value} (h : IsM w b n z f) (hg : w'.heap[b]? = w.heap[b]?) : IsM w' b n z f := by
  obtain ⟨D, ⟨es, clock, hb, r⟩, h2⟩ := h
  exact ⟨D, ⟨es, clock, hg.trans hb, r⟩, h2⟩

theorem IsM.look {w : World} {b n : Nat} {z : Value} {f : Int → Value} (h : IsM w b n z f) {t e : TypeId} (ht : Yba.prog.underlying t = some (.map 25 e)) (hz : (zeroValue e).run Yba.prog w = .ok z w)
    {a : Int} (ha : (Lit.int .u16 a).wf = true) : (Instr.lookup t (.map (some b)) (.int .u16 a) false).run Yba.prog w = .ok (f a) w := by
  obtain ⟨D, h1, _, h3⟩ := h
  obtain ⟨v, ps, hrun, hv⟩ := h1.lookup (zd := .held z) (zp := []) law25 ht hz rfl (keyOf_int_mk Yba.underlying25 ha)
  rw [h3 a ha] at hv
  simp only [tok, Option.some.injEq, Prod.mk.injEq, DataW.held.injEq] at hv
  rw [hrun, hv.1]

theorem IsM.store {w : World} {b n : Nat} {z : Value} {f : Int → Value} (h : IsM w b n z f) {t e : TypeId} (ht : Yba.prog.underlying t = some (.map 25 e)) (hn : n < maxLen)
    {a : Int} (ha : (Lit.int .u16 a).wf = true) (v : Value) : ∃ w', (Instr.mapUpdate t (.map (some b)) (.int .u16 a) v).run Yba.prog w = .ok () w' ∧ IsM w' b (n + 1) z (upd f a v) ∧ w.grownBy w' (some b) := by
  obtain ⟨D, h1, h2, h3⟩ := h
  have hk : keyOf Yba.prog 25 (.int .u16 a) = some (.int .u16 a) := keyOf_int_mk Yba.underlying25 ha
  obtain ⟨w', hrun, hown, hg⟩ := h1.update (val := v) (d := .held v) (ps := []) law25 ht hn hk rfl
  refine ⟨w', hrun, ⟨_, hown, h2.put _ _, fun x hx => ?_⟩, hg⟩
  unfold upd
  by_cases hxa : x = a
  · subst hxa
    rw [if_pos rfl, atKey_put_same h2 (law25.key hk)]
  · rw [if_neg hxa, atKey_put_other (fun e => hxa (by injection e)), h3 x hx]

/-- 'm[k]' at the operation. -/
theorem wpList_look (w : World) {ops : Array Oper} {rest : List Oper} {o : Oper} {a : Act} {Q : Exit → Act → World → Prop}
    (hg : o.guard = none) (m x : Operand) (t e : TypeId) (hop : o.op = Op.lookup t m x false) (ht : Yba.prog.underlying t = some (.map 25 e)) (b n : Nat) (z : Value) (f : Int → Value) (k : Int)
    (hm : a.eval m = .map (some b)) (hx : a.eval x = .int .u16 k) (h : IsM w b n z f) (hz : (zeroValue e).run Yba.prog w = .ok z w) (hk : (Lit.int .u16 k).wf = true)
    (hK : wpList Yba.prog ops Q rest (a.put o.dst (f k)) w) : wpList Yba.prog ops Q (o :: rest) a w := by
  refine wpList_plain hg fun K' hK' => ?_
  unfold Oper.wp
  simp [execOp, hop, hm, hx, h.look ht hz hk, Result.andThen]
  exact hK' _ _ hK

/-- 'm[k] = v' at the operation. -/
theorem wpList_store (w : World) {ops : Array Oper} {rest : List Oper} {o : Oper} {a : Act} {Q : Exit → Act → World → Prop}
    (hg : o.guard = none) (m x v : Operand) (t e : TypeId) (hop : o.op = Op.mapUpdate t m x v) (ht : Yba.prog.underlying t = some (.map 25 e)) (b n : Nat) (z : Value) (f : Int → Value) (k : Int) (val : Value)
    (hm : a.eval m = .map (some b)) (hx : a.eval x = .int .u16 k) (hv : a.eval v = val) (h : IsM w b n z f) (hn : n < maxLen) (hk : (Lit.int .u16 k).wf = true)
    (hK : ∀ w', IsM w' b (n + 1) z (upd f k val) → w.grownBy w' (some b) → wpList Yba.prog ops Q rest (a.put o.dst undef) w') : wpList Yba.prog ops Q (o :: rest) a w := by
  refine wpList_plain hg fun K' hK' => ?_
  obtain ⟨w', hrun, r1, r2⟩ := h.store ht hn hk val
  unfold Oper.wp
  simp [execOp, hop, hm, hx, hv, hrun, Result.andThen]
  exact hK' _ _ (hK w' r1 r2)

theorem IsM.congr {w : World} {b n : Nat} {z : Value} {f f' : Int → Value} (h : IsM w b n z f) (hf : ∀ a, f a = f' a) : IsM w b n z f' := by
  have : f = f' := funext hf
  rw [← this]; exact h

end Go.Proofs.Ybulkxky
