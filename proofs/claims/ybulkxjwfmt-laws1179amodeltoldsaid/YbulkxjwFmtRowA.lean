/-
  THE CARD OVER LawS1179AModel.
-/
import Derived.Test.YbulkxjwFmtBase
namespace Go.Proofs.YbulkxjwFmt
open Go.ChangeShapes Go.WideShapes Go.ChangeAt Go.RowKit Go.Kit
open Go.Extern.Stop Go.Stop Go.Extern

set_option maxRecDepth 100000 in
theorem lawA_long (a0 : Option Addr) (len cap : Nat) (hlen : 1024 < len) (at_ : Int) (pre : Bool) (preAt : Int) (w : World) :
    Calls Ybaf.prog 3 #[.slice a0 len cap, .int .u16 at_, .bool pre, .int .i64 preAt] w fun e w' => e = .returned (.bool true) ∧ Below w.heap.size w w' := by
  have hlenD : decide ((1024 : Int) < (len : Int)) = true := decide_eq_true (by omega)
  go_enter Ybaf.func3, Ybaf.ntmps3
  go_wp2
  go_ret
  exact ⟨rfl, Below.refl _ _⟩

/-- Every input: true. -/
theorem lawA_all (a0 : Option Addr) (len cap : Nat) (l : List UInt8) (at_ : Int) (h0 : 0 ≤ at_) (h1 : at_ ≤ 65535) (pre : Bool) (preAt : Int) (w : World) (hb : Bytes w a0 len l) (hs : Sent w) :
    Calls Ybaf.prog 3 #[.slice a0 len cap, .int .u16 at_, .bool pre, .int .i64 preAt] w fun e w' => e = .returned (.bool true) ∧ Below w.heap.size w w' := by
  by_cases hlen : 1024 < len
  · exact lawA_long a0 len cap hlen at_ pre preAt w
  · cases pre with
    | true => exact lawA_pre a0 len cap (by omega) l at_ h0 h1 preAt w hb
    | false =>
      have hm0 : 0 ≤ at_ % ((len : Int) + 1) := Int.emod_nonneg _ (by omega)
      have hm1 : at_ % ((len : Int) + 1) < (len : Int) + 1 := Int.emod_lt_of_pos _ (by omega)
      obtain ⟨t, ht⟩ : ∃ t : Nat, at_ % ((len : Int) + 1) = (t : Int) := ⟨(at_ % ((len : Int) + 1)).toNat, by omega⟩
      have htl : t ≤ len := by omega
      have hbd := from_bounds (l.drop t) 0 0
      have hD : Lib.uvarintDec (l.drop t) = Lib.uvarintFrom 0 0 (l.drop t) := rfl
      rw [← hD] at hbd
      have hll := hb.1
      cases hr : (reader 0 (l.drop t) (Lib.uvarintDec (l.drop t))).2.2 with
      | false => exact lawA_bad a0 len cap (by omega) l at_ h0 h1 preAt t ht htl w hb hs hr
      | true =>
        have hr' : ∃ v k, reader 0 (l.drop t) (Lib.uvarintDec (l.drop t)) = (v, k, true) ∧ 1 ≤ k ∧ t + k ≤ len := by
          generalize Lib.uvarintDec (l.drop t) = D at hr hbd
          unfold reader at hr ⊢
          split at hr
          · cases hr
          rename_i hp
          split at hr
          · cases hr
          rename_i hq
          rw [if_neg hp, if_neg hq]
          obtain ⟨b1, b2⟩ := hbd (by omega)
          rw [List.length_drop] at b2
          exact ⟨_, _, rfl, by omega, by omega⟩
        obtain ⟨v, k, hr2, hk1, hk⟩ := hr'
        exact lawA_ok a0 len cap (by omega) l at_ h0 h1 preAt t ht htl w hb v k hr2 hk1 hk

set_option maxRecDepth 100000 in
theorem liftedA (os : Os) (started : os.Started) (H : Type) (enc : TypeId × Value → H) :
    ReturnsInTold none {} Ybaf.checked os 3 .any Input.okWide ((OpenSpec.ofChange Rows.lawS1179AModelSpec).preRow enc Ybaf.prog Ybaf.f3 [] false Rows.lawS1179AModelRow.laid)
      (fun F => ((OpenSpec.ofChange Rows.lawS1179AModelSpec).at F).post enc Ybaf.prog Ybaf.f3 false true false false) (aloneAtReturn Ybaf.prog) nothingAlways := by
  rw [laidA]
  refine returnsInTold_of_row (C := Ybaf.checked) (s := OpenSpec.ofChange Rows.lawS1179AModelSpec) (by kernel_rfl) own started (by kernel_rfl) Ybaf.func3
    (OpenSpec.witness_stopped_at (enc := enc) (C := Ybaf.checked) false (lay (World.holding Ybaf.prog os three)) #[.slice none 0 0, .int .u16 0, .bool false, .int .i64 0] rfl (by kernel_rfl) (by kernel_rfl) (by kernel_rfl)
      (OpenSpec.preRow_of_B rfl 8 (by kernel_rfl) (by kernel_rfl) (lay_met os _))) ?_
  intro F W base args ds gs before _ _ hval0 hW _ _ _ hL _
  have hval : ∀ (j : Nat) t v, Ybaf.f3.params[j]? = some t → args[j]? = some v → Value.okWide Ybaf.prog W .any base t v := hval0
  have hW' := hW
  obtain ⟨p, q, hA0, hV0, rfl, hfz, hnd⟩ := hW
  have hA : DataW.TrodAll enc Ybaf.prog W 0 (fun _ => true) true Ybaf.f3.params.toList args.toList ds p := hA0
  have hV : DataW.TrodVars enc Ybaf.prog W (fun _ => true) [v0, v1, v2] gs q := hV0
  rw [Ybaf.params3] at hA hval
  obtain ⟨u0, vs0, d0, ds0, p0, q0, hargs, rfl, rfl, k0, r0⟩ := trodAll_cons hA
  obtain ⟨u1, vs1, d1, ds1, p1, q1, rfl, rfl, rfl, k1, r1⟩ := trodAll_cons r0
  obtain ⟨u2, vs2, d2, ds2, p2, q2, rfl, rfl, rfl, k2, r2⟩ := trodAll_cons r1
  obtain ⟨u3, vs3, d3, ds3, p3, q3, rfl, rfl, rfl, k3, r3⟩ := trodAll_cons r2
  obtain ⟨rfl, rfl, rfl⟩ := trodAll_nil r3
  obtain rfl : args = #[u0, u1, u2, u3] := by cases args; simp_all
  obtain ⟨a0, len0, cap0, rfl⟩ := okWide_slice Ybaf.underlying22 (hval 0 22 u0 rfl rfl)
  obtain ⟨x1, rfl, rfl, rfl, w1⟩ := open_int Ybaf.underlying23 (hval 1 23 u1 rfl rfl) k1
  obtain ⟨x2, rfl, rfl, rfl⟩ := open_bool Ybaf.underlying4 (hval 2 4 u2 rfl rfl) k2
  obtain ⟨x3, rfl, rfl, rfl, w3⟩ := open_int Ybaf.underlying3 (hval 3 3 u3 rfl rfl) k3
  have kk0 := k0
  have lt0 : ∀ x ∈ p0, x.block < W.heap.size := by obtain ⟨m, hm⟩ := kk0; exact DataW.trod_lt m _ _ _ hm
  obtain ⟨l, hl⟩ : ∃ l, Bytes W a0 len0 l := by
    obtain ⟨fuel, hf⟩ := k0
    exact (open_bytes (by simpa [Value.cells] using hf)).2
  obtain ⟨b0, b1, b2, hv0, hv1, hv2, hs⟩ := sents hL
  obtain ⟨rfl, rfl⟩ := hV.unique (vars_read3 enc hv0 trivial hv1 trivial hv2 trivial _)
  clear hA0 hV0 hval0
  have bx := bounds_u16 w1
  refine (lawA_all a0 len0 cap0 l x1 bx.1 bx.2 x2 x3 W hl hs).mono fun e W' ⟨he, bel⟩ => ?_
  subst he
  exact ⟨_, rfl, _, _, _, [], _, [.cell 0 0, .cell 1 0, .cell 2 0], hW', trodAll_mk1 (shut_bool Ybaf.underlying4 _),
    (trodAll_cons_mk (Below.trod laidOut (by kernel_rfl) (of_decide_eq_true (by kernel_rfl)) kk0 bel lt0) (trodAll_cons_mk (shut_int Ybaf.underlying23 w1) (trodAll_cons_mk (shut_bool Ybaf.underlying4 x2) (trodAll_cons_mk (shut_int Ybaf.underlying3 w3) trodAll_mk0)))),
    vars_read3 enc (var_below bel g0 hv0) trivial (var_below bel g1 hv1) trivial (var_below bel g2 hv2) trivial _, bel.frame _, fun h => by cases h⟩

/-- THE STATEMENT -/
theorem provedA : Rows.LawS1179AModelToldSaid :=
  Claim7.holds_of_told_tied_any_at .later 3 Ybaf.f3 "fmt.errorf" [] [] _ _ _ _ _ (by kernel_rfl) rfl rfl rfl laidOutP (by kernel_rfl) rfl ⟨rfl, rfl, rfl, rfl, rfl, rfl, rfl⟩ rfl rfl (by kernel_rfl) (by kernel_rfl) Ybaf.func3 (by kernel_rfl)
    (of_decide_eq_true (by kernel_rfl)) (by unfold Func.isWrapper; first | (rw [if_pos (by decide +kernel)]; kernel_rfl) | (rw [if_neg (by decide +kernel)]; exact ⟨rfl, rfl⟩)) (by kernel_rfl) rfl stopKnobs.symm (by kernel_rfl)
    (by kernel_rfl) (by kernel_rfl) (by kernel_rfl) (by kernel_rfl) (by kernel_rfl) (by kernel_rfl) (by kernel_rfl) (by kernel_rfl) (by kernel_rfl) rfl (by kernel_rfl) rfl rfl
    rfl rfl
    rfl (by kernel_rfl) (by kernel_rfl) (by kernel_rfl) (by decide) (by kernel_rfl) lawS1179AModel_row_tie
    (OpenClaim.moreEntering_of (by kernel_rfl) (by kernel_rfl) (by kernel_rfl) (by kernel_rfl) (by kernel_rfl) (by kernel_rfl) (by kernel_rfl) (by kernel_rfl) (by kernel_rfl) (by kernel_rfl))
    ⟨_, WideRow.started_initial, quiet _⟩
    (fun os started _ H enc _ => liftedA os started H enc)

end Go.Proofs.YbulkxjwFmt
