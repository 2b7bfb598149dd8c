import Derived.Test.YbulkxjwLaw
import Derived.ProofKit
import Derived.OpenShut
import Derived.ShutString
import Derived.ChangeOld
import Derived.SizedLaws
import Derived.Deep.Slices
import Derived.Deep.Strs
namespace Go.Proofs.Ybulkxjw
open Go.ChangeShapes Go.WideShapes Go.ChangeAt Go.RowKit
open Go.Deep (open_slice trod_struct3)

theorem own : ownKnob Yba.prog.godebug = none := by kernel_rfl
theorem laidOut : laidOutB Yba.prog = true := by kernel_rfl
theorem cells5 : Yba.prog.cellsOf 5 = 1 := by kernel_rfl
theorem cells24 : Yba.prog.cellsOf 24 = 1 := by kernel_rfl
theorem cells27 : Yba.prog.cellsOf 27 = 3 := by kernel_rfl
theorem cells56 : Yba.prog.cellsOf 56 = 1 := by kernel_rfl
theorem bytes56 : Yba.prog.bytesOf 56 = 8 := by kernel_rfl

set_option maxRecDepth 100000 in
/-- More than 1,024 entries: true at once. -/
theorem law_long (mode pSel peerSel cSel : Int) (a0 : Option Addr) (len cap : Nat) (hlen : 1024 < len) (w : World) :
    Calls Yba.prog 3 #[.int .u8 mode, .int .u8 pSel, .int .u8 peerSel, .int .u8 cSel, .slice a0 len cap] w fun e w' => e = .returned (.bool true) ∧ Below w.heap.size w w' := by
  have hlenD : decide ((1024 : Int) < (len : Int)) = true := decide_eq_true (by omega)
  go_enter Yba.func3, Yba.ntmps3
  go_wp2
  go_ret
  exact ⟨rfl, Below.refl _ _⟩

theorem weights_mem_all {H : Type} {P : Program} {e : TypeId} : ∀ {l : List (DataW H)} {d : DataW H}, d ∈ l → ∀ n ∈ d.weights P e, n ∈ DataW.weightsAll P e l
  | x :: r, d, h, n, hn => by
    simp only [DataW.weightsAll, List.mem_append]
    rcases List.mem_cons.1 h with rfl | h
    · exact .inl hn
    · exact .inr (weights_mem_all h n hn)

theorem three_of {cs : List Value} (h : cs.length = 3) : ∃ c0 c1 c2, cs = [c0, c1, c2] := by
  match cs, h with
  | [c0, c1, c2], _ => exact ⟨c0, c1, c2, rfl⟩

set_option maxRecDepth 100000 in
/-- THE ENTRIES, OPENED. -/
theorem open_entries {H : Type} {enc : TypeId × Value → H} {W : World} {fuel : Nat} {a : Option Addr} {len cap : Nat} {d : DataW H} {p : List MemPlace}
    (h : DataW.trod enc Yba.prog W 0 (fun _ => true) true fuel 22 [.slice a len cap] = some (d, p)) (hsz : ∀ n ∈ d.weights Yba.prog 22, n ≤ reachBytes) : len ≤ maxLen ∧ ∀ i, i < len → Entry W a i := by
  rcases open_slice Yba.underlying22 h with ⟨hcs, _⟩ | ⟨ad, len', cap', m, n, D, Pl, hcs, _, hl, hm, hmm, hx, hel⟩
  · simp at hcs
    obtain ⟨rfl, rfl, rfl⟩ := hcs
    exact ⟨by unfold maxLen; omega, fun i hi => absurd hi (Nat.not_lt_zero _)⟩
  · simp at hcs
    obtain ⟨rfl, rfl, rfl⟩ := hcs
    simp only [if_true] at hmm
    subst hmm
    refine ⟨Nat.le_trans hl hm, fun i hi => ?_⟩
    obtain ⟨cs, hc, ht⟩ := hel i (by omega)
    rw [cells27] at hc
    obtain ⟨_, hlen, hcell⟩ := World.cells?_some hc
    obtain ⟨y0, y1, y2, n', hD, _, h0, h1, h2⟩ := trod_struct3 Yba.underlying27 ht
    obtain ⟨c0, c1, c2, rfl⟩ := three_of hlen
    simp only [List.drop_succ_cons, List.drop_zero] at h0 h1 h2
    rw [cells5] at h0 h1
    rw [cells24] at h2
    obtain ⟨P, e0, rfl, wf0⟩ := DataW.trod_int Yba.underlying5 h0
    obtain ⟨C, e1, rfl, wf1⟩ := DataW.trod_int Yba.underlying5 h1
    simp only [List.take_succ_cons, List.take_zero, List.cons.injEq, and_true] at e0 e1 h2
    subst e0
    subst e1
    have g0 := hcell 0 (by omega)
    have g1 := hcell 1 (by omega)
    have g2 := hcell 2 (by omega)
    simp only [List.getElem?_cons_zero, List.getElem?_cons_succ] at g0 g1 g2
    obtain ⟨b, off, spot⟩ := ad
    have hspot : spot = none := by
      obtain ⟨cs0, hc0, _⟩ := hel 0 (by omega)
      rw [cells27] at hc0
      obtain ⟨_, hl0, hcell0⟩ := World.cells?_some hc0
      have k0 := hcell0 0 (by omega)
      obtain ⟨x0, x1, x2, rfl⟩ := three_of hl0
      simp only [List.getElem?_cons_zero, Nat.zero_mul] at k0
      have := World.cell?_spot k0
      simpa [Addr.add] using this
    subst hspot
    simp only [add_plain] at g0 g1 g2
    have hb : b < W.heap.size := World.block_lt_of_cell? _ _ g0
    have bP := bounds_u8 wf0
    have bC := bounds_u8 wf1
    rcases open_ints Yba.underlying24 Yba.underlying56 cells56 h2 with ⟨hcs2, hx2⟩ | ⟨a2, len2, cap2, zs, hcs2, _, hl2, hm2, hz2, hx2, hcell2, hwz2⟩
    · simp only [List.cons.injEq, and_true] at hcs2
      subst hcs2
      exact ⟨b, off, P, C, none, 0, 0, [], rfl, hb, g0, g1, g2, bP.1, bP.2, bC.1, bC.2, .inl ⟨rfl, rfl, rfl, rfl⟩⟩
    · simp only [List.cons.injEq, and_true] at hcs2
      subst hcs2
      refine ⟨b, off, P, C, some a2, len2, cap2, zs.take len2, rfl, hb, g0, g1, g2, bP.1, bP.2, bC.1, bC.2, .inr ⟨a2, rfl, ?_, ?_, ?_⟩⟩
      · simp only [Prod.mk.injEq] at hx
        obtain ⟨rfl, _⟩ := hx
        have hmem : D i ∈ (List.range len).map D := List.mem_map.2 ⟨i, List.mem_range.2 hi, rfl⟩
        have hD1 : D i = .agg [.lit (.int .u8 P), .lit (.int .u8 C), y2.1] := by
          have := congrArg Prod.fst hD
          simpa using this
        subst hx2
        have hz3 : zs.length = cap2 := by simpa using hz2
        have hwt := hsz ((List.length (lits (H := H) .u64 (zs.take len2)) + List.length (lits (H := H) .u64 (zs.drop len2))) * Yba.prog.bytesOf 56) (by
          simp only [DataW.weights, Yba.underlying22, List.mem_cons, List.mem_append]
          refine .inr (.inl (weights_mem_all hmem _ ?_))
          rw [hD1]
          simp [DataW.weights, DataW.weightsEach, Yba.underlying27, Yba.underlying24])
        rw [bytes56] at hwt
        simp only [lits, List.length_map, List.length_take, List.length_drop, reachBytes] at hwt
        omega
      · have hz3 : zs.length = cap2 := by simpa using hz2
        simp; omega
      · intro j hj
        have hz3 : zs.length = cap2 := by simpa using hz2
        rw [hcell2 j (by omega)]
        simp [hj]

theorem law_all (mode pSel peerSel cSel : Int) (hm0 : 0 ≤ mode) (hm1 : mode ≤ 255) (hp0 : 0 ≤ pSel) (hp1 : pSel ≤ 255) (hq0 : 0 ≤ peerSel) (hq1 : peerSel ≤ 255) (hc0 : 0 ≤ cSel) (hc1 : cSel ≤ 255)
    (a0 : Option Addr) (len cap : Nat) (w : World) (hE : ∀ i, i < len → Entry w a0 i) :
    Calls Yba.prog 3 #[.int .u8 mode, .int .u8 pSel, .int .u8 peerSel, .int .u8 cSel, .slice a0 len cap] w fun e w' => e = .returned (.bool true) ∧ Below w.heap.size w w' := by
  by_cases h : len ≤ 1024
  · exact law_walk mode pSel peerSel cSel hm0 hm1 hp0 hp1 hq0 hq1 hc0 hc1 a0 len cap h w hE
  · exact law_long mode pSel peerSel cSel a0 len cap (by omega) w

set_option maxRecDepth 100000 in
theorem lifted (os : Os) (started : os.Started) (H : Type) (enc : TypeId × Value → H) :
    ReturnsInHanded {} Yba.checked os 3 .any (Rows.lawS1179BHeardSpec.pre6 enc Yba.prog Yba.f3 Rows.lawS1179BHeardRow.domain false) (Rows.lawS1179BHeardSpec.post enc Yba.prog Yba.f3 false true false false) := by
  refine returnsInHanded_of_change_sized (C := Yba.checked) own started (by kernel_rfl) Yba.func3
    (ChangeSpec.witness6 (enc := enc) (C := Yba.checked) false ⟨#[], #[.int .u8 0, .int .u8 0, .int .u8 0, .int .u8 0, .slice none 0 0], []⟩ 8 (by kernel_rfl) (by kernel_rfl) (by kernel_rfl) (by kernel_rfl)) ?_
  intro W base args ds gs before hval0 hW hcnd hsz0 _
  have hval : ∀ (j : Nat) t v, Yba.f3.params[j]? = some t → args[j]? = some v → Value.okWide Yba.prog W .any base t v := hval0
  have hsz : (DataW.weightsEach Yba.prog (Yba.f3.params.toList ++ Rows.lawS1179BHeardSpec.plain.varTypes Yba.prog) (ds ++ gs)).all (· ≤ reachBytes) = true := hsz0
  have hW' := hW
  obtain ⟨p, q, hA0, hV, rfl, hfz, hnd⟩ := hW
  have hA : DataW.TrodAll enc Yba.prog W 0 (fun _ => true) true Yba.f3.params.toList args.toList ds p := hA0
  rw [Yba.params3] at hA hval hsz
  obtain ⟨v0, vs0, d0, ds0, p0, q0, hargs, rfl, rfl, h0, r0⟩ := trodAll_cons hA
  obtain ⟨v1, vs1, d1, ds1, p1, q1, rfl, rfl, rfl, h1, r1⟩ := trodAll_cons r0
  obtain ⟨v2, vs2, d2, ds2, p2, q2, rfl, rfl, rfl, h2, r2⟩ := trodAll_cons r1
  obtain ⟨v3, vs3, d3, ds3, p3, q3, rfl, rfl, rfl, h3, r3⟩ := trodAll_cons r2
  obtain ⟨v4, vs4, d4, ds4, p4, q4, rfl, rfl, rfl, h4, r4⟩ := trodAll_cons r3
  obtain ⟨rfl, rfl, rfl⟩ := trodAll_nil r4
  obtain rfl : args = #[v0, v1, v2, v3, v4] := by cases args; simp_all
  obtain ⟨rfl, rfl⟩ := trodVars_none hV
  obtain ⟨x0, rfl, rfl, rfl, w0⟩ := open_int Yba.underlying5 (hval 0 5 v0 rfl rfl) h0
  obtain ⟨x1, rfl, rfl, rfl, w1⟩ := open_int Yba.underlying5 (hval 1 5 v1 rfl rfl) h1
  obtain ⟨x2, rfl, rfl, rfl, w2⟩ := open_int Yba.underlying5 (hval 2 5 v2 rfl rfl) h2
  obtain ⟨x3, rfl, rfl, rfl, w3⟩ := open_int Yba.underlying5 (hval 3 5 v3 rfl rfl) h3
  obtain ⟨a4, len4, cap4, rfl⟩ := okWide_slice Yba.underlying22 (hval 4 22 v4 rfl rfl)
  have k4 := h4
  have lt4 : ∀ x ∈ p4, x.block < W.heap.size := by obtain ⟨m, hm⟩ := k4; exact DataW.trod_lt m _ _ _ hm
  have hE : ∀ i, i < len4 → Entry W a4 i := by
    obtain ⟨fuel, hf⟩ := h4
    refine (open_entries (by simpa [Value.cells] using hf) (fun n hn => ?_)).2
    have := List.all_eq_true.1 hsz n (DataW.weights_mem_each (j := 4) (t := 22) (d := d4) rfl rfl n hn)
    simpa using this
  clear hA0 hval0 hsz0 hsz
  refine (law_all x0 x1 x2 x3 (bounds_u8 w0).1 (bounds_u8 w0).2 (bounds_u8 w1).1 (bounds_u8 w1).2 (bounds_u8 w2).1 (bounds_u8 w2).2 (bounds_u8 w3).1 (bounds_u8 w3).2 a4 len4 cap4 W hE).mono fun e W' ⟨he, bel⟩ => ?_
  subst he
  exact ⟨_, rfl, _, _, _, [], _, [], hW', trodAll_mk1 (shut_bool Yba.underlying4 _), (trodAll_cons_mk (shut_int Yba.underlying5 w0) (trodAll_cons_mk (shut_int Yba.underlying5 w1) (trodAll_cons_mk (shut_int Yba.underlying5 w2) (trodAll_cons_mk (shut_int Yba.underlying5 w3)
    (trodAll_cons_mk (Below.trod laidOut (by kernel_rfl) (of_decide_eq_true (by kernel_rfl)) k4 bel lt4) trodAll_mk0))))), rfl, bel.frame _, fun h => by cases h⟩

theorem over : Rows.lawS1179BHeardRow.holds Yba.pinned (OpenSpec.ofChange Rows.lawS1179BHeardSpec) :=
  OpenClaim.holds_of_wide 3 Yba.f3 rfl rfl rfl rfl rfl rfl rfl ⟨rfl, rfl, rfl, rfl, rfl⟩ rfl rfl rfl rfl rfl (by kernel_rfl) Yba.func3 (by kernel_rfl)
    (of_decide_eq_true (by kernel_rfl)) (by unfold Func.isWrapper; first | (rw [if_pos (by decide +kernel)]; kernel_rfl) | (rw [if_neg (by decide +kernel)]; exact ⟨rfl, rfl⟩))
    (fun os started H enc _ => lifted os started H enc)

/-- THE STATEMENT -/
theorem proved : Rows.LawS1179BHeardSaid := over
end Go.Proofs.Ybulkxjw
