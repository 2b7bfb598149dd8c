/-
  THE CARD OVER LawS1179ARoundTrip.
-/
import Derived.Test.YbulkxjwFmtBase
import Derived.Test.YbulkxjwFmtLawB
namespace Go.Proofs.YbulkxjwFmt
open Go.ChangeShapes Go.WideShapes Go.ChangeAt Go.RowKit Go.Kit
open Go.Extern.Stop Go.Stop Go.Extern

set_option maxRecDepth 100000 in
theorem lawB_long (a0 : Option Addr) (len cap : Nat) (hlen : 1024 < len) (v : Int) (a2 : Option Addr) (len2 cap2 : Nat) (w : World) :
    Calls Ybaf.prog 4 #[.slice a0 len cap, .int .u64 v, .slice a2 len2 cap2] w fun e w' => e = .returned (.bool true) ∧ Below w.heap.size w w' := by
  have hlenD : decide ((1024 : Int) < (len : Int)) = true := decide_eq_true (by omega)
  go_enter Ybaf.func4, Ybaf.ntmps4
  go_wp2
  go_ret
  exact ⟨rfl, Below.refl _ _⟩

set_option maxRecDepth 100000 in
theorem lawB_long2 (a0 : Option Addr) (len cap : Nat) (hlen : len ≤ 1024) (v : Int) (a2 : Option Addr) (len2 cap2 : Nat) (hlen2 : 1024 < len2) (w : World) :
    Calls Ybaf.prog 4 #[.slice a0 len cap, .int .u64 v, .slice a2 len2 cap2] w fun e w' => e = .returned (.bool true) ∧ Below w.heap.size w w' := by
  have hlenD : decide ((1024 : Int) < (len : Int)) = false := decide_eq_false (by omega)
  have hlenD2 : decide ((1024 : Int) < (len2 : Int)) = true := decide_eq_true (by omega)
  go_enter Ybaf.func4, Ybaf.ntmps4
  go_wp2
  go_ret
  exact ⟨rfl, Below.refl _ _⟩

/-- Every input: true. -/
theorem lawB_all (a0 : Option Addr) (len cap : Nat) (l : List UInt8) (v : Int) (h0 : 0 ≤ v) (h1 : v ≤ 18446744073709551615) (a2 : Option Addr) (len2 cap2 : Nat) (l2 : List UInt8) (hnil : a2 = none → len2 = 0 ∧ cap2 = 0) (w : World) (hb : Bytes w a0 len l) (hb2 : Bytes w a2 len2 l2) :
    Calls Ybaf.prog 4 #[.slice a0 len cap, .int .u64 v, .slice a2 len2 cap2] w fun e w' => e = .returned (.bool true) ∧ Below w.heap.size w w' := by
  by_cases hlen : 1024 < len
  · exact lawB_long a0 len cap hlen v a2 len2 cap2 w
  · by_cases hlen2 : 1024 < len2
    · exact lawB_long2 a0 len cap (by omega) v a2 len2 cap2 hlen2 w
    · obtain ⟨n, rfl⟩ := Int.eq_ofNat_of_zero_le h0
      exact lawB_go a0 len cap (by omega) l n (by omega) a2 len2 cap2 (by omega) l2 hnil w hb hb2

/-- A slice that came in: nil means no length and no capacity. -/
theorem open_nil {H : Type} {enc : TypeId × Value → H} {W : World} {fuel : Nat} {a : Option Addr} {len cap : Nat} {x : DataW H × List MemPlace}
    (h : DataW.trod enc Ybaf.prog W 0 (fun _ => true) true fuel 22 [.slice a len cap] = some x) : a = none → len = 0 ∧ cap = 0 := by
  rcases open_ints Ybaf.underlying22 Ybaf.underlying5 cells5 h with ⟨hcs, _⟩ | ⟨ad, len', cap', zs, hcs, _⟩
  · simp at hcs
    obtain ⟨rfl, rfl, rfl⟩ := hcs
    exact fun _ => ⟨rfl, rfl⟩
  · simp at hcs
    obtain ⟨rfl, rfl, rfl⟩ := hcs
    exact fun h => by cases h

set_option maxRecDepth 100000 in
theorem liftedB (os : Os) (started : os.Started) (H : Type) (enc : TypeId × Value → H) :
    ReturnsInTold none {} Ybaf.checked os 4 .any Input.okWide ((OpenSpec.ofChange Rows.lawS1179ARoundTripSpec).preRow enc Ybaf.prog Ybaf.f4 [] false Rows.lawS1179ARoundTripRow.laid)
      (fun F => ((OpenSpec.ofChange Rows.lawS1179ARoundTripSpec).at F).post enc Ybaf.prog Ybaf.f4 false true false false) (aloneAtReturn Ybaf.prog) nothingAlways := by
  rw [laidB]
  refine returnsInTold_of_row (C := Ybaf.checked) (s := OpenSpec.ofChange Rows.lawS1179ARoundTripSpec) (by kernel_rfl) own started (by kernel_rfl) Ybaf.func4
    (OpenSpec.witness_stopped_at (enc := enc) (C := Ybaf.checked) false (lay (World.holding Ybaf.prog os three)) #[.slice none 0 0, .int .u64 0, .slice none 0 0] rfl (by kernel_rfl) (by kernel_rfl) (by kernel_rfl)
      (OpenSpec.preRow_of_B rfl 8 (by kernel_rfl) (by kernel_rfl) (lay_met os _))) ?_
  intro F W base args ds gs before _ _ hval0 hW _ _ _ hL _
  have hval : ∀ (j : Nat) t v, Ybaf.f4.params[j]? = some t → args[j]? = some v → Value.okWide Ybaf.prog W .any base t v := hval0
  have hW' := hW
  obtain ⟨p, q, hA0, hV0, rfl, hfz, hnd⟩ := hW
  have hA : DataW.TrodAll enc Ybaf.prog W 0 (fun _ => true) true Ybaf.f4.params.toList args.toList ds p := hA0
  have hV : DataW.TrodVars enc Ybaf.prog W (fun _ => true) [v0, v1, v2] gs q := hV0
  rw [Ybaf.params4] at hA hval
  obtain ⟨u0, vs0, d0, ds0, p0, q0, hargs, rfl, rfl, k0, r0⟩ := trodAll_cons hA
  obtain ⟨u1, vs1, d1, ds1, p1, q1, rfl, rfl, rfl, k1, r1⟩ := trodAll_cons r0
  obtain ⟨u2, vs2, d2, ds2, p2, q2, rfl, rfl, rfl, k2, r2⟩ := trodAll_cons r1
  obtain ⟨rfl, rfl, rfl⟩ := trodAll_nil r2
  obtain rfl : args = #[u0, u1, u2] := by cases args; simp_all
  obtain ⟨a0, len0, cap0, rfl⟩ := okWide_slice Ybaf.underlying22 (hval 0 22 u0 rfl rfl)
  obtain ⟨x1, rfl, rfl, rfl, w1⟩ := open_int Ybaf.underlying31 (hval 1 31 u1 rfl rfl) k1
  obtain ⟨a2, len2, cap2, rfl⟩ := okWide_slice Ybaf.underlying22 (hval 2 22 u2 rfl rfl)
  have kk0 := k0
  have lt0 : ∀ x ∈ p0, x.block < W.heap.size := by obtain ⟨m, hm⟩ := kk0; exact DataW.trod_lt m _ _ _ hm
  have kk2 := k2
  have lt2 : ∀ x ∈ p2, x.block < W.heap.size := by obtain ⟨m, hm⟩ := kk2; exact DataW.trod_lt m _ _ _ hm
  obtain ⟨l, hl⟩ : ∃ l, Bytes W a0 len0 l := by
    obtain ⟨fuel, hf⟩ := k0
    exact (open_bytes (by simpa [Value.cells] using hf)).2
  obtain ⟨hnil, l2, hl2⟩ : (a2 = none → len2 = 0 ∧ cap2 = 0) ∧ ∃ l, Bytes W a2 len2 l := by
    obtain ⟨fuel, hf⟩ := k2
    have hf' : DataW.trod enc Ybaf.prog W 0 (fun _ => true) true fuel 22 [.slice a2 len2 cap2] = some (d2, p2) := by simpa [Value.cells] using hf
    exact ⟨open_nil hf', (open_bytes hf').2⟩
  obtain ⟨b0, b1, b2, hv0, hv1, hv2, hs⟩ := sents hL
  obtain ⟨rfl, rfl⟩ := hV.unique (vars_read3 enc hv0 trivial hv1 trivial hv2 trivial _)
  clear hA0 hV0 hval0
  have bx := bounds_u64 w1
  refine (lawB_all a0 len0 cap0 l x1 bx.1 bx.2 a2 len2 cap2 l2 hnil W hl hl2).mono fun e W' ⟨he, bel⟩ => ?_
  subst he
  exact ⟨_, rfl, _, _, _, [], _, [.cell 0 0, .cell 1 0, .cell 2 0], hW', trodAll_mk1 (shut_bool Ybaf.underlying4 _),
    (trodAll_cons_mk (Below.trod laidOut (by kernel_rfl) (of_decide_eq_true (by kernel_rfl)) kk0 bel lt0) (trodAll_cons_mk (shut_int Ybaf.underlying31 w1) (trodAll_cons_mk (Below.trod laidOut (by kernel_rfl) (of_decide_eq_true (by kernel_rfl)) kk2 bel lt2) trodAll_mk0))),
    vars_read3 enc (var_below bel g0 hv0) trivial (var_below bel g1 hv1) trivial (var_below bel g2 hv2) trivial _, bel.frame _, fun h => by cases h⟩

/-- THE STATEMENT -/
theorem provedB : Rows.LawS1179ARoundTripToldSaid :=
  Claim7.holds_of_told_tied_any_at .later 4 Ybaf.f4 "fmt.errorf" [] [] _ _ _ _ _ (by kernel_rfl) rfl rfl rfl laidOutP (by kernel_rfl) rfl ⟨rfl, rfl, rfl, rfl, rfl, rfl, rfl⟩ rfl rfl (by kernel_rfl) (by kernel_rfl) Ybaf.func4 (by kernel_rfl)
    (of_decide_eq_true (by kernel_rfl)) (by unfold Func.isWrapper; first | (rw [if_pos (by decide +kernel)]; kernel_rfl) | (rw [if_neg (by decide +kernel)]; exact ⟨rfl, rfl⟩)) (by kernel_rfl) rfl stopKnobs.symm (by kernel_rfl)
    (by kernel_rfl) (by kernel_rfl) (by kernel_rfl) (by kernel_rfl) (by kernel_rfl) (by kernel_rfl) (by kernel_rfl) (by kernel_rfl) (by kernel_rfl) rfl (by kernel_rfl) rfl rfl
    rfl rfl
    rfl (by kernel_rfl) (by kernel_rfl) (by kernel_rfl) (by decide) (by kernel_rfl) lawS1179ARoundTrip_row_tie
    (OpenClaim.moreEntering_of (by kernel_rfl) (by kernel_rfl) (by kernel_rfl) (by kernel_rfl) (by kernel_rfl) (by kernel_rfl) (by kernel_rfl) (by kernel_rfl) (by kernel_rfl) (by kernel_rfl))
    ⟨_, WideRow.started_initial, quiet _⟩
    (fun os started _ H enc _ => liftedB os started H enc)

end Go.Proofs.YbulkxjwFmt
