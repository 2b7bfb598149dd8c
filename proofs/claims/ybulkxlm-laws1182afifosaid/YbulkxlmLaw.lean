/-
  LawS1182AFifo, walked.
-/
import Derived.Test.YbulkxlmPop
import Derived.Laws.MakeOwn
import Derived.OwnWalk
import Derived.LaidEqlPtr
import Derived.Deep.CutRange
namespace Go.Proofs.Ybulkxlm
open Go.RowKit

theorem info37 : (Yba.prog.info? 37).map (fun i => (i.zero.isSome, decide (i.bytes ≤ 1000))) = some (true, true) := by kernel_rfl
theorem info40 : (Yba.prog.info? 40).map (fun i => (i.zero, i.size, i.bytes)) = some (some (.agg #[.pointer none, .int .u64 0]), 2, 16) := by kernel_rfl

theorem make24 (n : Nat) (hn : n ≤ 1024) : ∃ o : Obj, ∀ w : World, (Instr.makeSlice 24 (.int .i64 n) (.int .i64 n)).run Yba.prog w = .ok (.slice (some ⟨w.heap.size, 0, none⟩) n n) (w.alloc o) := by
  obtain ⟨i0, hi, hz⟩ := Option.map_eq_some_iff.1 info37
  simp only [Prod.mk.injEq, decide_eq_true_eq] at hz
  obtain ⟨z, hz0⟩ := Option.isSome_iff_exists.1 hz.1
  refine ⟨.cells (madeCells z.cells (n * i0.size)) 37, fun w => ?_⟩
  have hr := run_make (P := Yba.prog) w 24 37 i0 z Yba.underlying24 hi hz0 .i64 .i64 n n (by omega) (by omega) (by
    have h1 : (i0.bytes : Int) ≤ 1000 := by have := hz.2; omega
    have h2 : (i0.bytes : Int) * (n : Int) ≤ 1000 * 1024 := Int.mul_le_mul h1 (by omega) (by omega) (by omega)
    omega) (by omega)
  simp only [Int.toNat_natCast] at hr
  exact hr

theorem make25 (n : Nat) (hn : n ≤ 1024) (w : World) : (Instr.makeSlice 25 (.int .i64 n) (.int .i64 n)).run Yba.prog w = .ok (.slice (some ⟨w.heap.size, 0, none⟩) n n) (w.alloc (.cells (madeCells #[.pointer none, .int .u64 0] (n * 2)) 40)) := by
  obtain ⟨i0, hi, hz0, hz1, hz2⟩ := info_parts info40
  have hr := run_make (P := Yba.prog) w 25 40 i0 _ Yba.underlying25 hi hz0 .i64 .i64 n n (by omega) (by omega) (by rw [hz2]; omega) (by omega)
  simp only [Int.toNat_natCast, hz1] at hr
  exact hr

theorem info37s : (Yba.prog.info? 37).isSome = true := by kernel_rfl
theorem neq_same (a : Addr) (w : World) : (binOp .neq 26 (.pointer (some a)) (.pointer (some a))).run Yba.prog w = .ok (.bool false) w := by
  obtain ⟨j, hte⟩ := Option.isSome_iff_exists.1 info37s
  have h : ∀ d : Nat, (Op.equalIn (d + 1) 26 (.pointer (some a)) (.pointer (some a))).run Yba.prog w = .ok true w := fun d => by
    simp [Op.equalIn, run_underlying Yba.underlying26, sizeOf, typeInfo, hte, run_sameAddr_same]
  simp only [binOp]
  simp [Op.equal, Op.maxDepth, h 9999]
theorem neq_nil (w : World) : (binOp .neq 26 (.pointer none) (.pointer none)).run Yba.prog w = .ok (.bool false) w := by kernel_rfl
theorem neq_zero (w : World) : (binOp .neq 40 (.agg #[.pointer none, .int .u64 0]) (.agg #[.pointer none, .int .u64 0])).run Yba.prog w = .ok (.bool false) w := by kernel_rfl

/-- A slice of uint64 that came in, by the index. -/
def Read (w : World) (a : Option Addr) (len : Nat) (z : Nat → Int) : Prop :=
  ∀ q, q < len → ∃ b off, a = some ⟨b, off, none⟩ ∧ b < w.heap.size ∧ w.cell? ⟨b, off + q, none⟩ = some (.int .u64 (z q))

set_option maxRecDepth 100000 in
set_option maxHeartbeats 1000000 in
theorem law_go (a0 : Option Addr) (n cap : Nat) (hn : n ≤ 1024) (z : Nat → Int) (a1 : Int) (h10 : 0 ≤ a1) (h11 : a1 ≤ 65535) (w : World) (hr : Read w a0 n z) :
    Calls Yba.prog 3 #[.slice a0 n cap, .int .u16 a1] w fun e w' => e = .returned (.bool true) ∧ Below w.heap.size w w' := by
  have hnD : decide ((1024 : Int) < (n : Int)) = false := decide_eq_false (by omega)
  obtain ⟨oM, mk24⟩ := make24 n hn
  have mk25 := make25 n hn
  go_enter Yba.func3, Yba.ntmps3
  go_wp2
  go_loopw [8] (fun i wr => ∃ (k : Nat) (f : Nat → Value), k ≤ n ∧ i = .int .i64 k ∧ wr.rowIs (w.heap.size + 1) 40 (n * 2) f ∧ Below w.heap.size w wr ∧
      Hid (∀ q, q < k → f (q * 2) = .pointer (some ⟨w.heap.size, q * 10, none⟩) ∧ f (q * 2 + 1) = .int .u64 (z q)))
    (fun i _ => n - (intOf i).toNat)
  case atStart =>
    have r0 := World.rowIs_alloc (w.alloc oM) (madeCells #[.pointer none, .int .u64 0] (n * 2)) 40 (fun i => (madeCells #[.pointer none, .int .u64 0] (n * 2)).getD i undef) (fun i hi => by simp [hi])
    rw [size_madeCells] at r0
    simp only [World.size_alloc] at r0
    exact ⟨0, _, by omega, rfl, r0, ((Below.refl _ w).alloc (Nat.le_refl _) _).alloc (by simp) _, fun q hq => absurd hq (Nat.not_lt_zero _)⟩
  case round =>
    obtain ⟨k, f, hk, rfl, rI, hbel, HF⟩ := hrel
    have hws := hbel.size
    by_cases hkn : k < n
    · have hki : (k : Int) < (n : Int) := by omega
      have hd : decide ((k : Int) < (n : Int)) = true := decide_eq_true hki
      obtain ⟨b, off, ha, hb, hck⟩ := hr k hkn
      have ck := (hbel.cell (p := ⟨b, off + k, none⟩) hb).trans hck
      have hidx : ∀ wx, Sem.run Yba.prog (Instr.indexAt 22 (.slice a0 n cap) (.int .i64 k)) wx = .ok (.pointer (some ⟨b, off + k, none⟩)) wx := by
        intro wx
        subst ha
        go_simp
      have t0 := rI.cell (i := k * 2) (by omega)
      have t1 := rI.cell (i := k * 2 + 1) (by omega)
      have fz0 := rI.frozen (k * 2)
      have fz1 := rI.frozen (k * 2 + 1)
      have HK : Hid _ := And.intro rI (And.intro hbel hws)
      clear ha hck hr rI hbel hws
      go_wp2
      go_big_region
      go_wp2
      obtain ⟨rI, hbel, hws⟩ := HK.out
      have rI2 := ((rI.set (k * 2) (.pointer (some ⟨w.heap.size, k * 10, none⟩))).set (k * 2 + 1) (.int .u64 (z k))).drew
      have hb2 := ((hbel.setCell (p := ⟨w.heap.size + 1, k * 2, none⟩) (Nat.le_succ _) (.pointer (some ⟨w.heap.size, k * 10, none⟩))).setCell (p := ⟨w.heap.size + 1, k * 2 + 1, none⟩) (Nat.le_succ _) (.int .u64 (z k))).drew
      go_roundw
      case rel =>
        refine ⟨k + 1, _, by omega, by go_num, rI2, hb2, fun q hq => ?_⟩
        by_cases e : q = k
        · subst e
          constructor
          · show (if q * 2 = q * 2 + 1 then _ else if q * 2 = q * 2 then _ else _) = _
            rw [if_neg (by omega), if_pos rfl]
          · show (if q * 2 + 1 = q * 2 + 1 then _ else _) = _
            rw [if_pos rfl]
        · have := HF.out q (by omega)
          constructor
          · show (if q * 2 = k * 2 + 1 then _ else if q * 2 = k * 2 then _ else _) = _
            rw [if_neg (by omega), if_neg (by omega)]
            exact this.1
          · show (if q * 2 + 1 = k * 2 + 1 then _ else if q * 2 + 1 = k * 2 then _ else _) = _
            rw [if_neg (by omega), if_neg (by omega)]
            exact this.2
      case measure => simp [intOf]; omega
    · obtain rfl : n = k := by omega
      clear mk24 mk25 hkn hk hws
      go_wp2
      obtain ⟨st, hst⟩ : ∃ st : Nat, a1 % ((n : Int) + 1) = (st : Int) := ⟨(a1 % ((n : Int) + 1)).toNat, by have := Int.emod_nonneg a1 (show (n : Int) + 1 ≠ 0 by omega); omega⟩
      have hstn : st ≤ n := by have := Int.emod_lt_of_pos a1 (show 0 < (n : Int) + 1 by omega); omega
      simp only [hst]
      clear hst
      have HFS : Hid (∀ q, st ≤ q → q < n → f (q * 2) = .pointer (some ⟨w.heap.size, q * 10, none⟩) ∧ f (q * 2 + 1) = .int .u64 (z q)) := fun q _ hq => HF.out q hq
      clear HF
      rename World => wo
      go_loopw [10] (fun i wr => ∃ (k : Nat) (f : Nat → Value), k ≤ st ∧ i = .int .i64 k ∧ wr.rowIs (w.heap.size + 1) 40 (n * 2) f ∧ Below w.heap.size w wr ∧
          Hid (∀ q, st ≤ q → q < n → f (q * 2) = .pointer (some ⟨w.heap.size, q * 10, none⟩) ∧ f (q * 2 + 1) = .int .u64 (z q)))
        (fun i _ => st - (intOf i).toNat)
      case atStart => exact ⟨0, f, by omega, rfl, rI, hbel, HFS⟩
      case round =>
        clear rI hbel HFS
        obtain ⟨k, f, hk, rfl, rI, hbel, HF⟩ := hrel
        by_cases hks : k < st
        · have hki : (k : Int) < (st : Int) := by omega
          have hd : decide ((k : Int) < (st : Int)) = true := decide_eq_true hki
          have hkn2 : (k : Int) < (n : Int) := by omega
          have t0 := rI.cell (i := k * 2) (by omega)
          have t1 := rI.cell (i := k * 2 + 1) (by omega)
          have fz0 := rI.frozen (k * 2)
          have fz1 := rI.frozen (k * 2 + 1)
          have rI2 := (rI.set (k * 2) (.pointer none)).set (k * 2 + 1) (.int .u64 0)
          have hb2 := (hbel.setCell (p := ⟨w.heap.size + 1, k * 2, none⟩) (Nat.le_succ _) (.pointer none)).setCell (p := ⟨w.heap.size + 1, k * 2 + 1, none⟩) (Nat.le_succ _) (.int .u64 0)
          have HK : Hid _ := And.intro rI2 hb2
          clear rI hbel rI2 hb2 hr
          go_wp2
          go_roundw
          case rel =>
            refine ⟨k + 1, _, by omega, by go_num, HK.out.1, HK.out.2, fun q hq hqn => ?_⟩
            have := HF.out q hq hqn
            constructor
            · show (if q * 2 = k * 2 + 1 then _ else if q * 2 = k * 2 then _ else _) = _
              rw [if_neg (by omega), if_neg (by omega)]
              exact this.1
            · show (if q * 2 + 1 = k * 2 + 1 then _ else if q * 2 + 1 = k * 2 then _ else _) = _
              rw [if_neg (by omega), if_neg (by omega)]
              exact this.2
          case measure => simp [intOf]; omega
        · obtain rfl : st = k := by omega
          clear hks hk
          go_wp2
          have hlt := rI.lt
          have rS := rI.alloc (.cells #[.int .i32 0, .int .u32 0, .slice (some ⟨w.heap.size + 1, 0, none⟩) n n, .int .i64 st, .int .u64 0, .int .i64 0, .pointer none, .chan none] 52)
          have rQ := World.rowIs_alloc wr #[.int .i32 0, .int .u32 0, .slice (some ⟨w.heap.size + 1, 0, none⟩) n n, .int .i64 st, .int .u64 0, .int .i64 0, .pointer none, .chan none] 52
            (fun i => #[Value.int .i32 0, .int .u32 0, .slice (some ⟨w.heap.size + 1, 0, none⟩) n n, .int .i64 st, .int .u64 0, .int .i64 0, .pointer none, .chan none].getD i undef)
            (fun i hi => by match i, hi with | 0, _ => rfl | 1, _ => rfl | 2, _ => rfl | 3, _ => rfl | 4, _ => rfl | 5, _ => rfl | 6, _ => rfl | 7, _ => rfl)
          have hb3 := hbel.alloc (by omega) (.cells #[.int .i32 0, .int .u32 0, .slice (some ⟨w.heap.size + 1, 0, none⟩) n n, .int .i64 st, .int .u64 0, .int .i64 0, .pointer none, .chan none] 52)
          generalize wr.alloc (.cells #[.int .i32 0, .int .u32 0, .slice (some ⟨w.heap.size + 1, 0, none⟩) n n, .int .i64 st, .int .u64 0, .int .i64 0, .pointer none, .chan none] 52) = wq at *
          generalize wr.heap.size = Q at *
          have hSQ : w.heap.size + 1 ≠ Q := by omega
          have hQB : w.heap.size ≤ Q := by omega
          clear rI hbel hlt
          clear wr
          rename World => wo2
          go_loopw [12] (fun i wr => ∃ (k : Nat) (f g : Nat → Value), st ≤ k ∧ k ≤ n ∧ i = .int .i64 k ∧ wr.rowIs (w.heap.size + 1) 40 (n * 2) f ∧ wr.rowIs Q 52 8 g ∧ Below w.heap.size w wr ∧
              Hid (g 0 = .int .i32 0 ∧ g 2 = .slice (some ⟨w.heap.size + 1, 0, none⟩) (if k = n ∧ st < n then 0 else n) n ∧ g 3 = .int .i64 ((if k = n ∧ st < n then 0 else k : Nat) : Int)) ∧
              Hid (∀ q, k ≤ q → q < n → f (q * 2) = .pointer (some ⟨w.heap.size, q * 10, none⟩) ∧ f (q * 2 + 1) = .int .u64 (z q)))
            (fun i _ => n - (intOf i).toNat)
          case atStart =>
            refine ⟨st, _, _, Nat.le_refl _, hstn, rfl, rS, rQ, hb3, ⟨rfl, ?_, ?_⟩, HF.out⟩
            · rw [if_neg (by omega)]; rfl
            · rw [if_neg (by omega)]; rfl
          case round =>
            clear rS rQ hb3 HF
            obtain ⟨k, f, g, hsk, hk, rfl, rS, rQ, hbel, HG, HF⟩ := hrel
            by_cases hkn : k < n
            · have hki : (k : Int) < (n : Int) := by omega
              have hd : decide ((k : Int) < (n : Int)) = true := decide_eq_true hki
              obtain ⟨b, off, ha, hb, hck⟩ := hr k hkn
              have hidx : ∀ wx, Sem.run Yba.prog (Instr.indexAt 22 (.slice a0 n cap) (.int .i64 k)) wx = .ok (.pointer (some ⟨b, off + k, none⟩)) wx := by
                intro wx
                subst ha
                go_simp
              obtain ⟨g0, g2, g3⟩ := HG.out
              rw [if_neg (by omega)] at g2 g3
              have hp := pop_some (w.heap.size + 1) Q n k w.heap.size f g wr hSQ rS rQ g0 g2 g3 hn hkn hQB (Nat.le_succ _) _ _ (HF.out k (Nat.le_refl _) hkn).1 (HF.out k (Nat.le_refl _) hkn).2
              have HP : Hid _ := hp
              have HR : Hid _ := And.intro hr hck
              clear hp g0 g2 g3 HG ha hr hck rS rQ
              go_wp2_with fail
              refine Calls.mono HP.out ?_
              rintro e W ⟨rfl, hbW, rSW, gW, rQW, gW0, gW2, gW3⟩
              have bW : Below w.heap.size w W := hbel.trans hbW
              have ck := (bW.cell (p := ⟨b, off + k, none⟩) hb).trans HR.out.2
              have s0 := rSW.cell (i := k * 2) (by omega)
              have s1 := rSW.cell (i := k * 2 + 1) (by omega)
              rw [if_neg (by omega), if_pos rfl] at s0
              rw [if_pos rfl] at s1
              have c2 := rQW.cell (i := 2) (by omega)
              have c3 := rQW.cell (i := 3) (by omega)
              rw [gW2] at c2
              rw [gW3] at c3
              have HW : Hid _ := And.intro rSW (And.intro rQW (And.intro bW (And.intro gW0 (And.intro gW2 gW3))))
              clear HP rSW rQW bW gW0 gW2 gW3 hbW hbel
              have ne1 := neq_same ⟨w.heap.size, k * 10, none⟩
              have ne2 := neq_zero
              by_cases hl : k + 1 = n
              · rw [if_pos hl] at c2 c3
                have hl2 : decide ((k : Int) + 1 < (n : Int)) = false := decide_eq_false (by omega)
                have Hl : Hid _ := hl
                clear hl
                go_wp2
                obtain ⟨rSW, rQW, bW, gW0, gW2, gW3⟩ := HW.out
                have hl := Hl.out
                go_roundw
                case rel =>
                  refine ⟨k + 1, _, gW, by omega, by omega, by go_num, rSW, rQW, bW, ⟨gW0, ?_, ?_⟩, fun q hq hqn => ?_⟩
                  · rw [gW2]
                    congr 1
                    rw [if_pos hl, if_pos ⟨hl, by omega⟩]
                  · rw [gW3]
                    congr 2
                    rw [if_pos hl, if_pos ⟨hl, by omega⟩]
                  · have := HF.out q (by omega) hqn
                    constructor
                    · show (if q * 2 = k * 2 + 1 then _ else if q * 2 = k * 2 then _ else _) = _
                      rw [if_neg (by omega), if_neg (by omega)]
                      exact this.1
                    · show (if q * 2 + 1 = k * 2 + 1 then _ else if q * 2 + 1 = k * 2 then _ else _) = _
                      rw [if_neg (by omega), if_neg (by omega)]
                      exact this.2
                case measure => simp [intOf]; omega
              · rw [if_neg hl] at c2 c3
                have hl2 : decide ((k : Int) + 1 < (n : Int)) = true := decide_eq_true (by omega)
                have Hl : Hid _ := hl
                clear hl
                go_wp2
                obtain ⟨rSW, rQW, bW, gW0, gW2, gW3⟩ := HW.out
                have hl := Hl.out
                go_roundw
                case rel =>
                  refine ⟨k + 1, _, gW, by omega, by omega, by go_num, rSW, rQW, bW, ⟨gW0, ?_, ?_⟩, fun q hq hqn => ?_⟩
                  · rw [gW2]
                    congr 1
                    rw [if_neg hl, if_neg (fun h => hl h.1)]
                  · rw [gW3]
                    congr 2
                    rw [if_neg hl, if_neg (fun h => hl h.1)]
                  · have := HF.out q (by omega) hqn
                    constructor
                    · show (if q * 2 = k * 2 + 1 then _ else if q * 2 = k * 2 then _ else _) = _
                      rw [if_neg (by omega), if_neg (by omega)]
                      exact this.1
                    · show (if q * 2 + 1 = k * 2 + 1 then _ else if q * 2 + 1 = k * 2 then _ else _) = _
                      rw [if_neg (by omega), if_neg (by omega)]
                      exact this.2
                case measure => simp [intOf]; omega
            · obtain rfl : n = k := by omega
              obtain ⟨g0, g2, g3⟩ := HG.out
              have ne1 := neq_nil
              clear HG HF hkn hk hr
              by_cases hs : st = n
              · rw [if_neg (by omega)] at g2 g3
                have hp := pop_none Q n w.heap.size _ _ g wr rQ g0 g2 g3 hQB
                have HP : Hid _ := hp
                have hs2 : ((st : Int) == (n : Int)) = true := by simp; omega
                clear hp g0 g2 g3 rS rQ hs
                go_wp2_with fail
                refine Calls.mono HP.out ?_
                rintro e W ⟨rfl, hbW, gW, rQW, gW2, gW3⟩
                have bW : Below w.heap.size w W := hbel.trans hbW
                have c2 := rQW.cell (i := 2) (by omega)
                have c3 := rQW.cell (i := 3) (by omega)
                rw [gW2] at c2
                rw [gW3] at c3
                have HW : Hid _ := bW
                clear HP rQW gW2 gW3 bW hbW hbel
                go_wp2
                go_ret
                exact ⟨rfl, HW.out⟩
              · rw [if_pos ⟨rfl, by omega⟩] at g2 g3
                have hp := pop_none Q 0 w.heap.size _ _ g wr rQ g0 g2 g3 hQB
                have HP : Hid _ := hp
                have hs2 : ((st : Int) == (n : Int)) = false := by simp; omega
                clear hp g0 g2 g3 rS rQ hs
                go_wp2_with fail
                refine Calls.mono HP.out ?_
                rintro e W ⟨rfl, hbW, gW, rQW, gW2, gW3⟩
                have bW : Below w.heap.size w W := hbel.trans hbW
                have c2 := rQW.cell (i := 2) (by omega)
                have c3 := rQW.cell (i := 3) (by omega)
                rw [gW2] at c2
                rw [gW3] at c3
                have HW : Hid _ := bW
                clear HP rQW gW2 gW3 bW hbW hbel
                go_wp2
                go_ret
                exact ⟨rfl, HW.out⟩
end Go.Proofs.Ybulkxlm
