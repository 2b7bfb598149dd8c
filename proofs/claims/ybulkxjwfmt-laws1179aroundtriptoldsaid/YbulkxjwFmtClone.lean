import Derived.Test.YbulkxjwFmtShelf
import Derived.WalkKit
import Derived.WalkSpells
import Derived.Laws.CopyOwn
namespace Go.Proofs.YbulkxjwFmt
open Go.RowKit

theorem info5 : (Ybaf.prog.info? 5).map (fun i => (i.zero, i.size, i.bytes)) = some (some (.int .u8 0), 1, 1) := by kernel_rfl
theorem size5 : (Ybaf.prog.info? 5).map (·.size) = some 1 := by kernel_rfl

/-- A slice of bytes that can be read: the bytes l. -/
def Bytes (w : World) (a : Option Addr) (len : Nat) (l : List UInt8) : Prop :=
  l.length = len ∧ (0 < len → ∃ ad, a = some ad ∧ ∀ j v, (Lib.byteCells l)[j]? = some v → w.cell? (ad.add j) = some v)

theorem Bytes.kept {w w' : World} {a : Option Addr} {len : Nat} {l : List UInt8} (h : Bytes w a len l) (hb : Below w.heap.size w w') : Bytes w' a len l := by
  refine ⟨h.1, fun h0 => ?_⟩
  obtain ⟨ad, ha, hc⟩ := h.2 h0
  refine ⟨ad, ha, fun j v hv => ?_⟩
  rw [hb.cell (World.block_lt_of_cell? _ _ (hc j v hv))]
  exact hc j v hv

theorem byteCells_one (l : List UInt8) : ∀ v ∈ Lib.byteCells l, v.oneCell' = true := by
  intro v hv
  simp [Lib.byteCells] at hv
  obtain ⟨b, _, rfl⟩ := hv
  rfl

theorem byteCells_length (l : List UInt8) : (Lib.byteCells l).length = l.length := by simp [Lib.byteCells]

set_option maxRecDepth 100000 in
theorem clone_calls (a0 : Option Addr) (len cap : Nat) (hlen : len ≤ 1024) (l : List UInt8) (w : World) (hb : Bytes w a0 len l) :
    Calls Ybaf.prog 5 #[.slice a0 len cap] w fun e w' => e = .returned (.slice (some ⟨w.heap.size, 0, none⟩) len len) ∧ w'.ownsRow w.heap.size 5 1 (.slice (some ⟨w.heap.size, 0, none⟩) len len) len (Lib.byteCells l) ∧ Below w.heap.size w w' := by
  obtain ⟨i0, hi, hz0, hz1, hz2⟩ := info_parts info5
  go_enter Ybaf.func5, Ybaf.ntmps5
  go_wp2_with (at_make; refine wpList_make_full _ rfl _ _ 22 rfl w.heap.size 5 i0 (.int .u8 0) 1 Ybaf.underlying22 hi hz0 hz1 _ _ _ _ len rfl rfl rfl rfl ?_ ?_ ?_ ?_)
  · rw [hz2]; omega
  · unfold maxLen; omega
  · exact Nat.le_refl _
  intro w1 hown hg
  have hbel : Below w.heap.size w w1 := (Below.refl _ w).grown hg (Nat.le_refl _) (fun k hk => by cases hk)
  have hh : w1.heap[w.heap.size]? = some (.cells (List.replicate len (Value.int .u8 0)).toArray 5 (0, 0)) := by
    obtain ⟨h1, h2⟩ := hown
    rcases h2 with ⟨e, _⟩ | ⟨g, c, cur, e, _, hg', _, _, hs, ht⟩
    · cases e
    · simp only [Value.slice.injEq, Option.some.injEq, Addr.mk.injEq] at e
      obtain ⟨⟨rfl, _, _⟩, _, rfl⟩ := e
      rw [hg']
      have e2 : cur.toList = List.replicate len (Value.int .u8 0) := by
        rw [Nat.mul_one, List.take_of_length_le (by simp [hs])] at ht
        rw [ht]
        exact toList_madeCells_one _ _
      rw [← e2]
  have hcl := byteCells_length l
  have hll := hb.1
  clear hown
  go_wp2_with (refine wpList_copy_splice rfl (.tmp 7) (.tmp 8) 22 22 rfl 5 Ybaf.underlying22 size5 _ _ _ _ _ _ rfl rfl w.heap.size 0 (List.replicate len (.int .u8 0)) 5 hh (Lib.byteCells l) ?_ ?_ ?_ (byteCells_one l) w.heap.size w hbel (Nat.le_refl _) ?_)
  · rw [hcl, hll]; simp
  · intro h0
    obtain ⟨ad, ha, hc⟩ := (hb.kept hbel).2 (by omega)
    first | exact ⟨rfl, ad, ha, hc⟩ | exact ⟨ad, ha, hc⟩
  · simp; omega
  intro w2 hg2 hb2
  have hsp : splice (List.replicate len (Value.int .u8 0)) 0 (Lib.byteCells l) = Lib.byteCells l := by
    simp [splice, hcl, hll]
  have hr : w2.ownsRow w.heap.size 5 1 (.slice (some ⟨w.heap.size, 0, none⟩) len len) len (Lib.byteCells l) := by
    refine ⟨by omega, .inr ⟨w.heap.size, len, (Lib.byteCells l).toArray, rfl, Nat.le_refl _, ?_, Nat.le_refl _, by unfold maxLen; omega, by simp; omega, by rw [Nat.mul_one]; exact List.take_of_length_le (by simp; omega)⟩⟩
    have := hg2.out
    rw [hsp] at this
    exact this
  clear hg2 hsp hh hb
  go_wp2
  go_ret
  exact ⟨rfl, hr, hb2⟩
end Go.Proofs.YbulkxjwFmt
