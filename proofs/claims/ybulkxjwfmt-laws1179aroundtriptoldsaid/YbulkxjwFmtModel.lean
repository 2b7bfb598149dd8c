/-
  The law's own decoder, walked.
-/
import Derived.Test.YbulkxjwFmtUv
import Derived.Lib.VarintBits
import Derived.Lib.EndianBits
namespace Go.Proofs.YbulkxjwFmt
open Go.RowKit

theorem model_ten (acc : Nat) (r : List UInt8) : modelFrom 10 acc r = (0, 0, false) := by
  cases r <;> simp [modelFrom]

/-- 'x | b<<s' where nothing meets: a sum. -/
theorem or_low (s acc b : Nat) (hs : s ≤ 63) (hacc : acc < 2 ^ s) (hb : b * 2 ^ s < 18446744073709551616) :
    bits .or .u64 (acc : Int) (IntKind.u64.wrap ((b : Int) * 2 ^ s)) = ((acc + b * 2 ^ s : Nat) : Int) := by
  have e : ((b : Int) * 2 ^ s) = ((b * 2 ^ s : Nat) : Int) := by simp
  have hw : IntKind.u64.wrap (((b * 2 ^ s : Nat)) : Int) = ((b * 2 ^ s : Nat) : Int) := u64_wrap_id _ (by omega) (by omega)
  have hp : (2 : Nat) ^ s ≤ 2 ^ 63 := Nat.pow_le_pow_right (by omega) hs
  have e63 : (2 : Nat) ^ 63 = 9223372036854775808 := by decide
  rw [e, hw, bits_join_low .u64 64 (by decide) wraps_u64 s _ _ (by omega) ?_ ?_ (by omega) ?_ ?_]
  · omega
  · have h1 : ((2 : Int) ^ s) = ((2 ^ s : Nat) : Int) := by simp
    rw [h1]; omega
  · have h1 : ((2 : Int) ^ 64) = 18446744073709551616 := by decide
    rw [h1]; omega
  · have h1 : ((2 : Int) ^ s) = ((2 ^ s : Nat) : Int) := by simp
    rw [h1]
    have h2 : (b * 2 ^ s) % 2 ^ s = 0 := Nat.mul_mod_left _ _
    omega
  · have h1 : ((2 : Int) ^ 64) = 18446744073709551616 := by decide
    rw [h1]; omega

theorem pow_step (k : Nat) : 2 ^ (7 * (k + 1)) = 2 ^ (7 * k) * 128 := by rw [show 7 * (k + 1) = 7 * k + 7 by omega, Nat.pow_add]

/-- A byte's seven bits, up to the ninth byte. -/
theorem seven_lt (k b : Nat) (hk : k ≤ 8) (hb : b < 128) : b * 2 ^ (7 * k) < 18446744073709551616 := by
  have h1 : (2 : Nat) ^ (7 * k) ≤ 2 ^ 56 := Nat.pow_le_pow_right (by omega) (by omega)
  have h2 : b * 2 ^ (7 * k) ≤ 127 * 2 ^ 56 := Nat.mul_le_mul (by omega) h1
  have h3 : 127 * 2 ^ 56 < 18446744073709551616 := by decide
  omega

theorem ten_lt (b : Nat) (hb : b ≤ 1) : b * 2 ^ (7 * 9) < 18446744073709551616 := by
  have e : (2 : Nat) ^ (7 * 9) = 9223372036854775808 := by decide
  rw [e]
  omega

set_option maxRecDepth 100000 in
set_option maxHeartbeats 1600000 in
theorem model_calls (ao : Option Addr) (n c : Nat) (hn : n ≤ 9223372036854775807) (l : List UInt8) (w : World) (h : At w ao n l) :
    Calls Ybaf.prog 8 #[.slice ao n c] w fun e w' => e = .returned (.tuple #[.int .u64 (modelFrom 0 0 l).1, .int .i64 (modelFrom 0 0 l).2.1, .bool (modelFrom 0 0 l).2.2]) ∧ w = w' := by
  generalize hR : modelFrom 0 0 l = R
  obtain ⟨r1, r2, r3⟩ := R
  have HR : Hid _ := hR
  clear hR
  simp only
  go_enter Ybaf.func8, Ybaf.ntmps8
  go_wp2
  go_loop [5, 6, 7] (fun x s i => ∃ (k : Nat) (X : Int) (acc : Nat), k ≤ n ∧ k ≤ 10 ∧ i = .int .i64 k ∧ s = .int .u64 ((7 * k : Nat) : Int) ∧ x = .int .u64 X ∧ Hid (modelFrom k acc (l.drop k) = (r1, r2, r3)) ∧ Hid (k ≤ 9 → X = acc ∧ acc < 2 ^ (7 * k)))
    (fun _ _ i => n - (intOf i).toNat)
  case atStart => exact ⟨0, 0, 0, by omega, by omega, rfl, rfl, rfl, HR.out, fun _ => ⟨rfl, by decide⟩⟩
  case round =>
    obtain ⟨k, X, acc, hk, hk10, rfl, rfl, rfl, HM, HX⟩ := hrel
    clear HR
    by_cases hkn : k < n
    · obtain ⟨g, o, ha, hc⟩ := h.2 (by omega)
      have hl := h.1
      have hcell := hc k (by omega)
      have hidx : ∀ wx, Sem.run Ybaf.prog (Instr.indexAt 22 (.slice ao n c) (.int .i64 k)) wx = .ok (.pointer (some ⟨g, o + k, none⟩)) wx := by
        intro wx
        subst ha
        have hki : (k : Int) < (n : Int) := by omega
        go_simp
      have hdrop : l.drop k = l[k]'(by omega) :: l.drop (k + 1) := List.drop_eq_getElem_cons (by omega)
      have hb256 : (l[k]'(by omega)).toNat < 256 := (l[k]'(by omega)).toNat_lt
      generalize l[k]'(by omega) = b at hcell hdrop hb256
      have HD : Hid _ := hdrop
      have hd : decide ((k : Int) < (n : Int)) = true := decide_eq_true (by omega)
      clear hc ha h hdrop
      by_cases hk10' : k = 10
      · have e10 : ((k : Int) == 10) = true := beq_iff_eq.2 (by omega)
        have hfin : (0, 0, false) = (r1, r2, r3) := by rw [← HM.out, hk10', model_ten]
        have HF : Hid _ := hfin
        clear hk10' hfin
        go_wp2
        go_ret3
        obtain ⟨rfl, rfl, rfl⟩ : 0 = r1 ∧ 0 = r2 ∧ false = r3 := by simpa using HF.out
        exact ⟨rfl, rfl⟩
      have e10 : ((k : Int) == 10) = false := beq_eq_false_iff_ne.2 (by omega)
      have HN : Hid _ := hk10'
      clear hk10'
      by_cases h128 : b.toNat < 128
      · have hi128 : ((b.toNat : Int)) < 128 := by omega
        -- the three ways of the last byte
        have fail_of : (k = 9 ∧ 1 < b.toNat) ∨ (0 < k ∧ b.toNat = 0) → (0, 0, false) = (r1, r2, r3) := by
          intro hx
          rw [← HM.out, HD.out, modelFrom, if_neg HN.out, if_pos h128]
          by_cases h9 : k = 9 ∧ 1 < b.toNat
          · rw [if_pos h9]
          · rw [if_neg h9, if_pos (by omega)]
        have ok_of : ¬ (k = 9 ∧ 1 < b.toNat) → ¬ (0 < k ∧ b.toNat = 0) → (((acc + b.toNat * 2 ^ (7 * k), k + 1, true) : Nat × Nat × Bool) = (r1, r2, r3)) ∧ bits .or .u64 X (IntKind.u64.wrap ((b.toNat : Int) * 2 ^ (7 * k))) = ((acc + b.toNat * 2 ^ (7 * k) : Nat) : Int) := by
          intro h1 h2
          refine ⟨by rw [← HM.out, HD.out, modelFrom, if_neg HN.out, if_pos h128, if_neg h1, if_neg h2], ?_⟩
          have hN : k ≠ 10 := HN.out
          obtain ⟨rfl, hacc⟩ := HX.out (by omega)
          refine or_low (7 * k) acc b.toNat (by omega) hacc ?_
          by_cases hk9 : k = 9
          · subst hk9
            exact ten_lt _ (by omega)
          · exact seven_lt k _ (by omega) h128
        have FO : Hid _ := fail_of
        have OO : Hid _ := ok_of
        clear fail_of ok_of HM HX HD
        by_cases k9 : k = 9
        · have t9 : ((k : Int) == 9) = true := beq_iff_eq.2 (by omega)
          have hpos : 0 < k := by omega
          have tk0 : decide ((0 : Int) < (k : Int)) = true := decide_eq_true (by omega)
          by_cases b1 : 1 < b.toNat
          · have tb : decide ((1 : Int) < (b.toNat : Int)) = true := decide_eq_true (by omega)
            have HF : Hid _ := FO.out (.inl ⟨k9, b1⟩)
            clear k9 OO FO
            go_wp2
            go_ret3
            obtain ⟨rfl, rfl, rfl⟩ : 0 = r1 ∧ 0 = r2 ∧ false = r3 := by simpa using HF.out
            exact ⟨rfl, rfl⟩
          · have tb : decide ((1 : Int) < (b.toNat : Int)) = false := decide_eq_false (by omega)
            by_cases b0 : b.toNat = 0
            · have tz : ((b.toNat : Int) == 0) = true := beq_iff_eq.2 (by omega)
              have HF : Hid _ := FO.out (.inr ⟨by omega, b0⟩)
              clear k9 b0 OO FO
              go_wp2
              go_ret3
              obtain ⟨rfl, rfl, rfl⟩ : 0 = r1 ∧ 0 = r2 ∧ false = r3 := by simpa using HF.out
              exact ⟨rfl, rfl⟩
            · have tz : ((b.toNat : Int) == 0) = false := beq_eq_false_iff_ne.2 (by omega)
              have HF : Hid _ := OO.out (by omega) (by omega)
              clear k9 b0 OO FO
              go_wp2
              go_ret3
              obtain ⟨hF, hV⟩ := HF.out
              simp only [Prod.mk.injEq] at hF
              obtain ⟨rfl, rfl, rfl⟩ := hF
              exact ⟨by rw [← hV]; rfl, rfl⟩
        · have t9 : ((k : Int) == 9) = false := beq_eq_false_iff_ne.2 (by omega)
          by_cases hpos : 0 < k
          · have tk0 : decide ((0 : Int) < (k : Int)) = true := decide_eq_true (by omega)
            by_cases b0 : b.toNat = 0
            · have tz : ((b.toNat : Int) == 0) = true := beq_iff_eq.2 (by omega)
              have HF : Hid _ := FO.out (.inr ⟨by omega, b0⟩)
              clear k9 b0 OO FO
              go_wp2
              go_ret3
              obtain ⟨rfl, rfl, rfl⟩ : 0 = r1 ∧ 0 = r2 ∧ false = r3 := by simpa using HF.out
              exact ⟨rfl, rfl⟩
            · have tz : ((b.toNat : Int) == 0) = false := beq_eq_false_iff_ne.2 (by omega)
              have HF : Hid _ := OO.out (by omega) (by omega)
              clear k9 b0 OO FO
              go_wp2
              go_ret3
              obtain ⟨hF, hV⟩ := HF.out
              simp only [Prod.mk.injEq] at hF
              obtain ⟨rfl, rfl, rfl⟩ := hF
              exact ⟨by rw [← hV]; rfl, rfl⟩
          · have tk0 : decide ((0 : Int) < (k : Int)) = false := decide_eq_false (by omega)
            have HF : Hid _ := OO.out (by omega) (by omega)
            clear k9 OO FO
            go_wp2
            go_ret3
            obtain ⟨hF, hV⟩ := HF.out
            simp only [Prod.mk.injEq] at hF
            obtain ⟨rfl, rfl, rfl⟩ := hF
            exact ⟨by rw [← hV]; rfl, rfl⟩
      · have hi128 : (128 : Int) ≤ (b.toNat : Int) := by omega
        have hgo : modelFrom (k + 1) (acc + b.toNat % 128 * 2 ^ (7 * k)) (l.drop (k + 1)) = (r1, r2, r3) := by
          rw [← HM.out, HD.out, modelFrom, if_neg HN.out, if_neg h128]
        have hval : k + 1 ≤ 9 → bits .or .u64 X (IntKind.u64.wrap (IntKind.u64.wrap (bits .and .u8 (b.toNat : Int) 127) * 2 ^ (7 * k))) = ((acc + b.toNat % 128 * 2 ^ (7 * k) : Nat) : Int) ∧ acc + b.toNat % 128 * 2 ^ (7 * k) < 2 ^ (7 * (k + 1)) := by
          intro h9
          obtain ⟨rfl, hacc⟩ := HX.out (by omega)
          have hm : bits .and .u8 (b.toNat : Int) 127 = ((b.toNat % 128 : Nat) : Int) := by rw [u8_and127 _ (by omega) (by omega)]; omega
          rw [hm, u64_wrap_id ((b.toNat % 128 : Nat) : Int) (by omega) (by omega)]
          refine ⟨or_low (7 * k) acc (b.toNat % 128) (by omega) hacc (seven_lt k _ (by omega) (by omega)), ?_⟩
          rw [pow_step]
          have h1 : b.toNat % 128 * 2 ^ (7 * k) ≤ 127 * 2 ^ (7 * k) := Nat.mul_le_mul (by omega) (Nat.le_refl _)
          omega
        have HG : Hid _ := hgo
        have HV : Hid _ := hval
        clear hgo hval HM HX HD
        have hN : k ≠ 10 := HN.out
        go_wp2
        go_round
        case rel => exact ⟨k + 1, _, _, by omega, by omega, by go_num, by go_num, rfl, HG.out, HV.out⟩
        case measure => simp [intOf]; omega
    · go_wp2
      go_ret3
      have hfin : (0, 0, false) = (r1, r2, r3) := by
        rw [← HM.out, List.drop_eq_nil_of_le (by have := h.1; omega)]; rfl
      obtain ⟨rfl, rfl, rfl⟩ : 0 = r1 ∧ 0 = r2 ∧ false = r3 := by simpa using hfin
      exact ⟨rfl, rfl⟩
end Go.Proofs.YbulkxjwFmt
