import Derived.Test.YbulkxjwInv
import Derived.Test.YbulkxjwDecoy
import Derived.Test.YbulkxjwEq
import Derived.Test.YbulkxjwHeard
import Derived.Laws.AppendOwnNone
namespace Go.Proofs.Ybulkxjw
open Go.RowKit Go.Maps

theorem info56 : (Yba.prog.info? 56).map (fun i => (i.zero, i.size, i.bytes)) = some (some (.int .u64 0), 1, 8) := by kernel_rfl

theorem make4 (w : World) : (Instr.makeSlice 29 (.int .i64 4) (.int .i64 4)).run Yba.prog w = .ok (.slice (some ⟨w.heap.size, 0, none⟩) 4 4) (w.alloc (.cells #[.pointer none, .pointer none, .pointer none, .pointer none] 30)) := by kernel_rfl
theorem eql_filter_nil (w : World) : (binOp .eql 25 (.slice none 0 0) (.slice none 0 0)).run Yba.prog w = .ok (.bool true) w := by kernel_rfl
theorem eql_map_nil (w : World) : (binOp .eql 28 (.map none) (.map none)).run Yba.prog w = .ok (.bool true) w := by kernel_rfl
theorem eql_map_some (b : Nat) (w : World) : (binOp .eql 28 (.map (some b)) (.map none)).run Yba.prog w = .ok (.bool false) w := by kernel_rfl

/-- A slice of words that came in: nil, or a row that can be read. -/
def Words (w : World) (a : Option Addr) (n c : Nat) (zs : List Int) : Prop :=
  (a = none ∧ n = 0 ∧ c = 0 ∧ zs = []) ∨ ∃ ad, a = some ad ∧ n * 8 ≤ 140737488351232 ∧ zs.length = n ∧ ∀ j, j < n → w.cell? (ad.add j) = some (.int .u64 (zs.getD j 0))

theorem Words.kept {w w' : World} {a : Option Addr} {n c : Nat} {zs : List Int} (h : Words w a n c zs) (hb : Below w.heap.size w w') : Words w' a n c zs := by
  rcases h with h | ⟨ad, h1, h2, h3, h4⟩
  · exact .inl h
  · refine .inr ⟨ad, h1, h2, h3, fun j hj => ?_⟩
    rw [hb.cell (World.block_lt_of_cell? _ _ (h4 j hj))]
    exact h4 j hj

/-- 'append([]uint64(nil), words...)'. -/
theorem wpList_words {w : World} {ops : Array Oper} {rest : List Oper} {o : Oper} {a : Act} {Q : Exit → Act → World → Prop} (hgd : o.guard = none) (x : Operand)
    (ho : o.op = .call { callee := .builtin .append, args := #[.const (.slice none 0 0), x], argTypes := #[24, 24] })
    (base : Nat) (ad : Option Addr) (n c : Nat) (zs : List Int) (hx : a.eval x = .slice ad n c) (hw : Words w ad n c zs) (hbase : base ≤ w.heap.size)
    (h : ∀ v' w', w'.ownsRow base 56 1 v' n (zs.map (Value.int .u64)) → w.grownBy w' none → wpList Yba.prog ops Q rest (a.put o.dst v') w') : wpList Yba.prog ops Q (o :: rest) a w := by
  obtain ⟨i0, hi, hz0, hz1, hz2⟩ := info_parts info56
  rcases hw with ⟨rfl, rfl, rfl, rfl⟩ | ⟨ad, rfl, hn, hl, hcell⟩
  · refine wpList_append_own_none hgd _ _ 24 ho base 56 i0 1 Yba.underlying24 hi (.slice none 0 0) 0 [] rfl (World.ownsRow_nil _ _ _ _) hx ?_
    exact h _ _ (World.ownsRow_nil _ _ _ _) (World.grownBy.refl _ _)
  · refine wpList_append_own w hgd _ _ 24 ho base 56 i0 (.int .u64 0) 1 8 Yba.underlying24 hi hz0 hz1 hz2 rfl (by decide) (.slice none 0 0) 0 [] rfl (World.ownsRow_nil _ _ _ _)
      ad n c (zs.map (Value.int .u64)) hx (by simp [hl]) ?_ (ints_oneCell _ _) (by unfold maxLen; omega) (by omega) hbase ?_
    · intro j u hu
      rw [List.getElem?_map] at hu
      cases hz : zs[j]? with
      | none => rw [hz] at hu; cases hu
      | some y =>
        rw [hz] at hu
        simp at hu
        subst hu
        have hj : j < n := by rw [← hl]; exact (List.getElem?_eq_some_iff.1 hz).1
        rw [hcell j hj, List.getD_eq_getElem?_getD, hz]
        rfl
    · intro v' w' h1 h2 _
      simp only [Nat.zero_add, List.nil_append] at h1
      exact h v' w' h1 h2

/-- A row of the call's own, behind a store into the outer map and one into an inner one. -/
theorem row_store {w w' : World} {B b n : Nat} {v : Value} {xs : List Value} (h : w.ownsRow (B + 1) 56 1 v n xs) (hg : w.grownBy w' (some b)) (hb : b ≤ B ∨ w.heap.size ≤ b ∨ ∃ es clock, w.heap[b]? = some (.map es clock)) : w'.ownsRow (B + 1) 56 1 v n xs := by
  refine h.kept hg ?_
  cases hv : v.ownBlock with
  | none => exact .inl rfl
  | some k =>
    have hk := h.lt k hv
    refine .inr fun e => ?_
    cases e
    rcases hb with hb | hb | ⟨es, clock, hb⟩
    · omega
    · omega
    · rcases h.2 with ⟨rfl, _⟩ | ⟨g, cap, cur, rfl, _, hgg, _⟩
      · simp [Value.ownBlock] at hv
      · simp [Value.ownBlock] at hv
        subst hv
        rw [hgg] at hb
        cases hb

theorem IsM.isMap {w : World} {b n : Nat} {z : Value} {f : Int → Value} (h : IsM w b n z f) : ∃ es clock, w.heap[b]? = some (.map es clock) := by
  obtain ⟨D, ⟨es, clock, hb, _⟩, _⟩ := h
  exact ⟨es, clock, hb⟩

/-- WHAT THE WALK IS TOLD OF THE i-th ENTRY. -/
def Entry (w : World) (a0 : Option Addr) (i : Nat) : Prop :=
  ∃ (b off : Nat) (P C : Int) (a : Option Addr) (n c : Nat) (zs : List Int), a0 = some ⟨b, off, none⟩ ∧ b < w.heap.size ∧ w.cell? ⟨b, off + i * 3, none⟩ = some (.int .u8 P) ∧ w.cell? ⟨b, off + i * 3 + 1, none⟩ = some (.int .u8 C) ∧
    w.cell? ⟨b, off + i * 3 + 2, none⟩ = some (.slice a n c) ∧ 0 ≤ P ∧ P ≤ 255 ∧ 0 ≤ C ∧ C ≤ 255 ∧ Words w a n c zs

theorem below_on {w w1 w2 : World} (h : Below w.heap.size w w1) (h2 : Below w1.heap.size w1 w2) : Below w.heap.size w w2 := h.trans (h2.mono h.size)

/-- The third mode's world: the part lies there, and what is heard is what is wanted. -/
theorem heard_three {S : World} {N B k L pn : Nat} {peer c : Int} {want : Value} {found : Bool} {m : Int → Option Nat} {g : Int → Int → Value} (hpn : pn < 4) (hN : S.heap.size = N) (hI : Inv S B k peer c want found m g)
    (hc : S.cell? ⟨L, pn, none⟩ = some (.pointer (some ⟨N + 1 + 1, 0, none⟩))) (hp : (Lit.int .i64 peer).wf = true) (hc' : (Lit.int .i64 c).wf = true) (o4 : Array Value) (h4 : o4[8]? = some (.slice (some ⟨L, 0, none⟩) 4 4)) :
    Calls Yba.prog 5 #[.pointer (some ⟨N + 1 + 1 + 1, 0, none⟩), .int .i64 pn, .int .i64 peer, .int .i64 c]
      ((((S.alloc (.cells #[.int .i64 0, .slice none 0 0, .map (some B)] 40)).alloc (.cells #[.nilIface, .iface 37 (.pointer (some ⟨N, 0, none⟩))] 61)).alloc (.cells #[.slice (some ⟨N + 1, 0, none⟩) 2 2, .map none, .map none] 36)).alloc (.cells o4 53))
      fun e w' => e = .returned want ∧ ((((S.alloc (.cells #[.int .i64 0, .slice none 0 0, .map (some B)] 40)).alloc (.cells #[.nilIface, .iface 37 (.pointer (some ⟨N, 0, none⟩))] 61)).alloc (.cells #[.slice (some ⟨N + 1, 0, none⟩) 2 2, .map none, .map none] 36)).alloc (.cells o4 53)) = w' := by
  subst hN
  have l := learned_some (S.heap.size + 1 + 1 + 1) L pn hpn (S.heap.size + 1 + 1) (S.heap.size + 1) (.pointer (some ⟨S.heap.size, 0, none⟩))
    ((((S.alloc (.cells #[.int .i64 0, .slice none 0 0, .map (some B)] 40)).alloc (.cells #[.nilIface, .iface 37 (.pointer (some ⟨S.heap.size, 0, none⟩))] 61)).alloc (.cells #[.slice (some ⟨S.heap.size + 1, 0, none⟩) 2 2, .map none, .map none] 36)).alloc (.cells o4 53))
    (by rw [World.cell?_alloc_at _ _ _ _ (by simp)]; exact h4) (cell_al (cell_al (cell_al (cell_al hc _) _) _) _)
    (cell_al (by rw [World.cell?_alloc_at _ _ _ _ (by simp)]; rfl) _) (cell_al (cell_al (by rw [World.cell?_alloc_at _ _ _ _ (by simp)]; rfl) _) _)
  have hs : ((((S.alloc (.cells #[.int .i64 0, .slice none 0 0, .map (some B)] 40)).alloc (.cells #[.nilIface, .iface 37 (.pointer (some ⟨S.heap.size, 0, none⟩))] 61)).alloc (.cells #[.slice (some ⟨S.heap.size + 1, 0, none⟩) 2 2, .map none, .map none] 36)).alloc (.cells o4 53)).cell? ⟨S.heap.size, 2, none⟩ = some (.map (some B)) :=
    cell_al (cell_al (cell_al (by rw [World.cell?_alloc_at _ _ _ _ rfl]; rfl) _) _) _
  have hI' := (((hI.kept (World.grownBy_alloc S (.cells #[.int .i64 0, .slice none 0 0, .map (some B)] 40) none)).kept (World.grownBy_alloc _ (.cells #[.nilIface, .iface 37 (.pointer (some ⟨S.heap.size, 0, none⟩))] 61) none)).kept
    (World.grownBy_alloc _ (.cells #[.slice (some ⟨S.heap.size + 1, 0, none⟩) 2 2, .map none, .map none] 36) none)).kept (World.grownBy_alloc _ (.cells o4 53) none)
  revert l hs hI'
  generalize ((((S.alloc (.cells #[.int .i64 0, .slice none 0 0, .map (some B)] 40)).alloc (.cells #[.nilIface, .iface 37 (.pointer (some ⟨S.heap.size, 0, none⟩))] 61)).alloc (.cells #[.slice (some ⟨S.heap.size + 1, 0, none⟩) 2 2, .map none, .map none] 36)).alloc (.cells o4 53)) = W
  intro l hs hI'
  cases hm : m peer with
  | none =>
    rw [(hI.off hm).1]
    exact heard_nil _ _ _ _ W _ B k _ hs hI'.outer (by rw [hm]) hp hc' l
  | some b => exact heard_on _ _ _ _ W _ B k _ hs hI'.outer b k (g peer) (by rw [hm]) (hI'.inner peer b hm).2 want (hI'.on b hm) hp hc' l

set_option maxRecDepth 100000 in
set_option maxHeartbeats 1000000 in
theorem law_walk (mode pSel peerSel cSel : Int) (hm0 : 0 ≤ mode) (hm1 : mode ≤ 255) (hp0 : 0 ≤ pSel) (hp1 : pSel ≤ 255) (hq0 : 0 ≤ peerSel) (hq1 : peerSel ≤ 255) (hc0 : 0 ≤ cSel) (hc1 : cSel ≤ 255)
    (a0 : Option Addr) (len cap : Nat) (hlen : len ≤ 1024) (w : World) (hE : ∀ i, i < len → Entry w a0 i) :
    Calls Yba.prog 3 #[.int .u8 mode, .int .u8 pSel, .int .u8 peerSel, .int .u8 cSel, .slice a0 len cap] w fun e w' => e = .returned (.bool true) ∧ Below w.heap.size w w' := by
  have hmm := @run_makeMap Yba.prog
  have mk4 := make4
  have ef0 := eql_filter_nil
  have em0 := eql_map_nil
  have em1 := eql_map_some
  have hlenD : decide ((1024 : Int) < (len : Int)) = false := decide_eq_false (by omega)
  go_enter Yba.func3, Yba.ntmps3
  go_wp2
  obtain ⟨pn, hpn⟩ : ∃ pn : Nat, pSel % 4 = (pn : Int) := ⟨(pSel % 4).toNat, by omega⟩
  have hpn4 : pn < 4 := by omega
  simp only [hpn]
  clear hpn
  go_loopw [15, 16, 42] (fun want found i wr => ∃ (k : Nat) (fd : Bool) (m : Int → Option Nat) (g : Int → Int → Value) (nw : Nat) (zw : List Int), k ≤ len ∧ i = .int .i64 k ∧ found = .bool fd ∧
      Inv wr w.heap.size k (peerSel % 4) (cSel % 4) want fd m g ∧ wr.ownsRow (w.heap.size + 1) 56 1 want nw (zw.map (Value.int .u64)) ∧ Below w.heap.size w wr)
    (fun _ _ i _ => len - (intOf i).toNat)
  case atStart => exact ⟨0, false, _, _, 0, [], by omega, rfl, rfl, inv_made _ _ _, World.ownsRow_nil _ _ _ _, (Below.refl _ _).alloc (Nat.le_refl _) _⟩
  case round =>
    obtain ⟨k, fd, m, g, nw, zw, hk, rfl, rfl, hinv, hrow, hbel⟩ := hrel
    by_cases hkl : k < len
    · obtain ⟨b, off, P, C, a, n, c, zs, ha0, hb, hc0, hc1, hc2, hP0, hP1, hC0, hC1, hw⟩ := hE k hkl
      have hidx : ∀ wx, Sem.run Yba.prog (Instr.indexAt 22 (.slice a0 len cap) (.int .i64 k)) wx = .ok (.pointer (some ⟨b, off + k * 3, none⟩)) wx := by
        intro wx
        subst ha0
        have hki : (k : Int) < (len : Int) := by omega
        go_simp
      have hd : decide ((k : Int) < (len : Int)) = true := decide_eq_true (by omega)
      have c0 := (hbel.cell (p := ⟨b, off + k * 3, none⟩) hb).trans hc0
      have c1 := (hbel.cell (p := ⟨b, off + k * 3 + 1, none⟩) hb).trans hc1
      have c2 := (hbel.cell (p := ⟨b, off + k * 3 + 2, none⟩) hb).trans hc2
      have hws := hbel.size
      clear ha0 hE hc0 hc1 hc2
      go_wp2_with (at_builtin; refine wpList_words rfl _ rfl (w.heap.size + 1) a n c zs rfl ?_ ?_ ?_)
      · exact hw.kept (hbel.alloc hws _)
      · simp; omega
      intro v w1 hv hg1
      have hinv1 := (hinv.kept (World.grownBy_alloc _ _ none)).kept hg1
      have hrow1 := (hrow.alloc (.cells #[.int .u8 P, .int .u8 C, .slice a n c] 27)).kept hg1 (by cases hx : u15.ownBlock <;> simp)
      have hbel1 := (hbel.alloc hws (.cells #[.int .u8 P, .int .u8 C, .slice a n c] 27)).grown hg1 (by simp; omega) (fun j hj => by cases hj)
      clear hg1 hrow hinv
      cases hme : m (P % 4) with
      | none =>
        have HM : Hid _ := hme
        clear hme
        have hlt := hinv1.outer.lt
        go_wp2_with (first
          | (at_lookup; refine wpList_look _ rfl _ _ 23 28 rfl Yba.underlying23 w.heap.size k (.map none) (fun a => .map (m a)) (P % 4) rfl rfl hinv1.outer (zero28 _) (wf_small (by omega) (by omega)) ?_; rw [HM.out])
          | (at_mapUpdate; refine wpList_store _ rfl _ _ _ 23 28 rfl Yba.underlying23 w.heap.size k (.map none) (fun a => .map (m a)) (P % 4) _ rfl rfl rfl ?_ ?_ ?_ ?_))
        · exact hinv1.outer.kept (World.grownBy_alloc _ _ none) (by simp)
        · unfold maxLen; omega
        · exact wf_small (by omega) (by omega)
        intro w2 hm2 hg2
        have hin2 : IsM w2 w1.heap.size 0 (.slice none 0 0) (fun _ => .slice none 0 0) := (isM_made w1 _).kept hg2 (by simp; omega)
        go_wp2_with (at_mapUpdate; refine wpList_store _ rfl _ _ _ 28 25 rfl Yba.underlying28 w1.heap.size 0 (.slice none 0 0) (fun _ => .slice none 0 0) (C % 4) _ rfl rfl rfl ?_ ?_ ?_ ?_)
        · exact hin2
        · unfold maxLen; omega
        · exact wf_small (by omega) (by omega)
        intro w3 hm3 hg3
        have hI := hinv1.fresh (ec := C % 4) (v := v) HM.out hg2 hm2 hg3 hm3
        have hv3 : w3.ownsRow (w.heap.size + 1) 56 1 v n (zs.map (Value.int .u64)) := row_store (row_store (hv.alloc _) hg2 (.inl (Nat.le_refl _))) hg3 (.inr (.inr hin2.isMap))
        have hr3 : w3.ownsRow (w.heap.size + 1) 56 1 u15 nw (zw.map (Value.int .u64)) := row_store (row_store (hrow1.alloc _) hg2 (.inl (Nat.le_refl _))) hg3 (.inr (.inr hin2.isMap))
        have hb3 : Below w.heap.size w w3 := ((hbel1.alloc hbel1.size _).grown hg2 (by have := hbel1.size; simp; omega) (fun j hj => by cases hj; exact Nat.le_refl _)).grown hg3 (by have := hbel1.size; have := hg2.size; simp at this; omega) (fun j hj => by cases hj; exact hbel1.size)
        clear hm2 hg2 hin2 hm3 hg3 hinv1 hv hrow1 hlt hbel1
        have HI : Hid _ := hI
        clear hI
        go_wp2
        · have e1 : P % 4 = peerSel % 4 := by assumption
          have e2 : (C % 4 == cSel % 4) = true := by assumption
          have hI := HI.out
          rw [if_pos ⟨e1, eq_of_beq e2⟩, if_pos ⟨e1, eq_of_beq e2⟩] at hI
          go_roundw
          case rel => exact ⟨k + 1, true, _, _, n, zs, by omega, by go_num, rfl, hI, hv3, hb3⟩
          case measure => simp [intOf]; omega
        · have e2 : (C % 4 == cSel % 4) = false := by assumption
          have hI := HI.out
          rw [if_neg (fun h => beq_eq_false_iff_ne.1 e2 h.2), if_neg (fun h => beq_eq_false_iff_ne.1 e2 h.2)] at hI
          go_roundw
          case rel => exact ⟨k + 1, fd, _, _, nw, zw, by omega, by go_num, rfl, hI, hr3, hb3⟩
          case measure => simp [intOf]; omega
        · have e1 : ¬ P % 4 = peerSel % 4 := by assumption
          have hI := HI.out
          rw [if_neg (fun h => e1 h.1), if_neg (fun h => e1 h.1)] at hI
          go_roundw
          case rel => exact ⟨k + 1, fd, _, _, nw, zw, by omega, by go_num, rfl, hI, hr3, hb3⟩
          case measure => simp [intOf]; omega
      | some bm =>
        have HM : Hid _ := hme
        have hin1 := (hinv1.inner _ _ hme).2
        have hbB := hbel1.size
        have hbm : w.heap.size ≤ bm := Nat.le_of_lt (hinv1.inner _ _ hme).1
        clear hme
        go_wp2_with (first
          | (at_lookup; refine wpList_look _ rfl _ _ 23 28 rfl Yba.underlying23 w.heap.size k (.map none) (fun a => .map (m a)) (P % 4) rfl rfl hinv1.outer (zero28 _) (wf_small (by omega) (by omega)) ?_; rw [HM.out])
          | (at_mapUpdate; refine wpList_store _ rfl _ _ _ 28 25 rfl Yba.underlying28 bm k (.slice none 0 0) (g (P % 4)) (C % 4) _ rfl rfl rfl ?_ ?_ ?_ ?_))
        · exact hin1
        · unfold maxLen; omega
        · exact wf_small (by omega) (by omega)
        intro w3 hm3 hg3
        have hI := hinv1.old (ec := C % 4) (v := v) HM.out hg3 hm3
        have hv3 : w3.ownsRow (w.heap.size + 1) 56 1 v n (zs.map (Value.int .u64)) := row_store hv hg3 (.inr (.inr hin1.isMap))
        have hr3 : w3.ownsRow (w.heap.size + 1) 56 1 u15 nw (zw.map (Value.int .u64)) := row_store hrow1 hg3 (.inr (.inr hin1.isMap))
        have hb3 : Below w.heap.size w w3 := hbel1.grown hg3 hbel1.size (fun j hj => by cases hj; exact hbm)
        clear hm3 hg3 hinv1 hv hrow1 hbel1 hin1
        have HI : Hid _ := hI
        clear hI
        go_wp2
        · have e1 : P % 4 = peerSel % 4 := by assumption
          have e2 : (C % 4 == cSel % 4) = true := by assumption
          have hI := HI.out
          rw [if_pos ⟨e1, eq_of_beq e2⟩, if_pos ⟨e1, eq_of_beq e2⟩] at hI
          go_roundw
          case rel => exact ⟨k + 1, true, _, _, n, zs, by omega, by go_num, rfl, hI, hv3, hb3⟩
          case measure => simp [intOf]; omega
        · have e2 : (C % 4 == cSel % 4) = false := by assumption
          have hI := HI.out
          rw [if_neg (fun h => beq_eq_false_iff_ne.1 e2 h.2), if_neg (fun h => beq_eq_false_iff_ne.1 e2 h.2)] at hI
          go_roundw
          case rel => exact ⟨k + 1, fd, _, _, nw, zw, by omega, by go_num, rfl, hI, hr3, hb3⟩
          case measure => simp [intOf]; omega
        · have e1 : ¬ P % 4 = peerSel % 4 := by assumption
          have hI := HI.out
          rw [if_neg (fun h => e1 h.1), if_neg (fun h => e1 h.1)] at hI
          go_roundw
          case rel => exact ⟨k + 1, fd, _, _, nw, zw, by omega, by go_num, rfl, hI, hr3, hb3⟩
          case measure => simp [intOf]; omega
    · clear hE
      go_wp2
      rename World => wo
      have hbo := hbel.size
      go_loopw [24] (fun i wr => ∃ (q : Nat) (vs : Array Value), q ≤ 4 ∧ i = .int .i64 q ∧ wr.heap[wo.heap.size]? = some (.cells vs 30 (0, 0)) ∧ vs.size = 4 ∧ vs[pn]? = some (.pointer none) ∧
          Inv wr w.heap.size k (peerSel % 4) (cSel % 4) u15 fd m g ∧ wr.ownsRow (w.heap.size + 1) 56 1 u15 nw (zw.map (Value.int .u64)) ∧ Below w.heap.size w wr)
        (fun i _ => 4 - (intOf i).toNat)
      case atStart =>
        refine ⟨0, _, by omega, rfl, heap_alloc_new _ _, rfl, ?_, hinv.kept (World.grownBy_alloc _ _ none), hrow.alloc _, hbel.alloc hbel.size _⟩
        rcases (show pn = 0 ∨ pn = 1 ∨ pn = 2 ∨ pn = 3 by omega) with rfl | rfl | rfl | rfl <;> rfl
      case round =>
        clear hinv hrow hbel
        obtain ⟨q, vs, hq, rfl, hL, hvs, hvp, hinv, hrow, hbel⟩ := hrel
        have hLlt : wo.heap.size < wr.heap.size := (Array.getElem?_eq_some_iff.1 hL).1
        by_cases hq4 : q < 4
        · have hd : decide ((q : Int) < 4) = true := decide_eq_true (by omega)
          by_cases hqp : q = pn
          · have hdp : ((q : Int) != (pn : Int)) = false := by simp [hqp]
            clear hqp
            have HL : Hid _ := hL
            clear hL
            go_wp2
            go_roundw
            case rel => exact ⟨q + 1, vs, by omega, by go_num, HL.out, hvs, hvp, hinv, hrow, hbel⟩
            case measure => simp [intOf]; omega
          · have hdp : ((q : Int) != (pn : Int)) = true := by simp; omega
            have HL : Hid _ := hL
            clear hL
            go_wp2_with fail
            refine (decoy q (by omega) (by omega) wr).mono ?_
            rintro e w1 ⟨⟨x, rfl⟩, hb1⟩
            have hL1 : w1.heap[wo.heap.size]? = some (.cells vs 30 (0, 0)) := (hb1.block _ hLlt).trans HL.out
            have hc1 : w1.cell? ⟨wo.heap.size, q, none⟩ = some (vs.getD q (.pointer none)) := by
              simp [World.cell?, hL1, hvs, hq4]
            have hf1 : w1.frozen? ⟨wo.heap.size, q, none⟩ = false := by simp [World.frozen?, hL1]
            have hg1 := grownBy_of_below hb1
            have hinv1 := hinv.kept hg1
            have hrow1 := hrow.kept hg1 (by cases hx : u15.ownBlock <;> simp)
            have hbel1 := hbel.grown hg1 hbel.size (fun j hj => by cases hj)
            have HL1 : Hid _ := hL1
            clear hL1 hb1 hg1
            go_wp2
            go_roundw
            case rel =>
              refine ⟨q + 1, _, by omega, by go_num, heap_setCell_at HL1.out _, by simp [hvs], ?_, hinv1.other (grownBy_setCell _ _ _) HL1.out, row_other hrow1 (grownBy_setCell _ _ _) HL1.out, hbel1.setCell hbo _⟩
              rw [Array.getElem?_setIfInBounds_ne hqp]
              exact hvp
            case measure => simp [intOf]; omega
        · have hcp : wr.cell? ⟨wo.heap.size, pn, none⟩ = some (.pointer none) := by simp [World.cell?, hL, hvp]
          have hfp : wr.frozen? ⟨wo.heap.size, pn, none⟩ = false := by simp [World.frozen?, hL]
          have hpi : (pn : Int) < 4 := by omega
          have HL : Hid _ := hL
          have hinvS := fun u => hinv.other (grownBy_setCell wr ⟨wo.heap.size, pn, none⟩ u) hL
          have hrowS := fun u => row_other hrow (grownBy_setCell wr ⟨wo.heap.size, pn, none⟩ u) hL
          have hcS : ∀ u, (wr.setCell ⟨wo.heap.size, pn, none⟩ u).cell? ⟨wo.heap.size, pn, none⟩ = some u := fun u => by
            simp [World.cell?, heap_setCell_at hL u, hvs, hpn4]
          have hbelS := fun u => hbel.setCell (p := ⟨wo.heap.size, pn, none⟩) hbo u
          have HS : Hid _ := And.intro hinvS (And.intro hrowS (And.intro hcS hbelS))
          clear hL hinvS hrowS hcS hbelS hvs hvp hq
          have hd : decide ((q : Int) < 4) = false := decide_eq_false (by omega)
          rcases (show mode % 4 = 0 ∨ mode % 4 = 1 ∨ mode % 4 = 2 ∨ mode % 4 = 3 by omega) with hmd | hmd | hmd | hmd
          · go_wp2_with fail
            refine Calls.mono (heard_off _ _ _ _ _ (learned_nil _ wo.heap.size pn hpn4 _ ?_ ?_)) ?_
            · go_simp
            · go_simp
            rintro e w' ⟨rfl, rfl⟩
            go_wp2
            go_ret
            exact ⟨rfl, hbel.alloc hbel.size _⟩
          · go_wp2_with fail
            refine Calls.mono (heard_off _ _ _ _ _ (learned_none _ wo.heap.size pn hpn4 wr.heap.size none 0 0 (by omega) _ ?_ ?_ ?_)) ?_
            · go_simp
            · exact cell_al (cell_al (HS.out.2.2.1 _) _) _
            · go_simp
            rintro e w' ⟨rfl, rfl⟩
            have hb1 := HS.out.2.2.2
            go_wp2
            go_ret
            exact ⟨rfl, below_al (below_al (hb1 _) _) _⟩
          · go_wp2_with fail
            refine Calls.mono (heard_off _ _ _ _ _ (learned_none _ wo.heap.size pn hpn4 (wr.heap.size + 1) (some ⟨wr.heap.size, 0, none⟩) 1 1 (by omega) _ ?_ ?_ ?_)) ?_
            · go_simp
            · exact cell_al (cell_al (cell_al (HS.out.2.2.1 _) _) _) _
            · go_simp
            rintro e w' ⟨rfl, rfl⟩
            have hb1 := HS.out.2.2.2
            go_wp2
            go_ret
            exact ⟨rfl, below_al (below_al (below_al (hb1 _) _) _) _⟩
          · have hle0 : wo.heap.size ≤ wr.heap.size := by omega
            have hle1 : wo.heap.size < wr.heap.size + 1 := by omega
            have hle2 : wo.heap.size < wr.heap.size + 1 + 1 := by omega
            have hle3 : wo.heap.size ≤ wr.heap.size + 1 := by omega
            have hT := heard_three (N := wr.heap.size) hpn4 (by simp) (HS.out.1 (.pointer (some ⟨wr.heap.size + 1 + 1, 0, none⟩))) (HS.out.2.2.1 _) (wf_small (by omega) (by omega)) (wf_small (by omega) (by omega))
            have HT : Hid _ := hT
            have hnf := hinv.notFound
            clear hT
            cases fd with
            | false =>
              have hu : u15 = .slice none 0 0 := hnf rfl
              have HU : Hid _ := hu
              clear hu hnf
              go_wp2_with fail
              refine Calls.mono (HT.out _ (by rfl)) ?_
              rintro e w' ⟨he, rfl⟩
              rw [HU.out] at he
              subst he
              have hb1 := HS.out.2.2.2
              go_wp2
              go_ret
              exact ⟨rfl, below_al (below_al (below_al (below_al (hb1 _) _) _) _) _⟩
            | true =>
              clear hnf
              go_wp2_with fail
              refine Calls.mono (HT.out _ (by rfl)) ?_
              rintro e w' ⟨rfl, rfl⟩
              have hr1 := HS.out.2.1 (.pointer (some ⟨wr.heap.size + 1 + 1, 0, none⟩))
              have hb1 := HS.out.2.2.2 (.pointer (some ⟨wr.heap.size + 1 + 1, 0, none⟩))
              go_wp2_with fail
              refine (equal_row (w.heap.size + 1) nw u15 zw _ ((((hr1.alloc _).alloc _).alloc _).alloc _)).mono ?_
              rintro e w2 ⟨rfl, hb2⟩
              go_wp2
              go_ret
              exact ⟨rfl, below_on (below_al (below_al (below_al (below_al hb1 _) _) _) _) hb2⟩
end Go.Proofs.Ybulkxjw
