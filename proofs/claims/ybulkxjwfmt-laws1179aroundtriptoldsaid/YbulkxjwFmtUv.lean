/-
  The package's own 'uvarint': what the library decodes, refused where it is cut, long or padded.
-/
import Derived.Test.YbulkxjwFmtClone
import Derived.Test.YbulkxjwFmtPlain
import Derived.Deep.QuietTactic
import Derived.BigQuiet
import Derived.WalkSmall
namespace Go.Proofs.YbulkxjwFmt
open Go.RowKit

/-- The three sentinels: each variable holds a pointer to an errors.errorString. -/
def Sent (w : World) : Prop := ∀ i, i < 3 → ∃ a s, w.cell? ⟨i, 0, none⟩ = some (.iface 38 (.pointer (some a))) ∧ w.cell? a = some (.string s)

/-- Bytes at every index, for a slice that may be nil. -/
def At (w : World) (ao : Option Addr) (n : Nat) (l : List UInt8) : Prop :=
  l.length = n ∧ (0 < n → ∃ g o, ao = some ⟨g, o, none⟩ ∧ ∀ j (hj : j < l.length), w.cell? ⟨g, o + j, none⟩ = some (.int .u8 (l[j]).toNat))

theorem lib_calls (ao : Option Addr) (n c : Nat) (l : List UInt8) (w : World) (h : At w ao n l) :
    Calls Ybaf.prog 12 #[.slice ao n c] w fun e w' => e = .returned (.tuple #[.int .u64 (Lib.uvarintDec l).1, .int .i64 (Lib.uvarintDec l).2]) ∧ w = w' := by
  rcases Nat.eq_zero_or_pos n with rfl | h0
  · obtain rfl : l = [] := List.eq_nil_of_length_eq_zero h.1
    exact (Ybaf.binary_Uvarint_empty ao c w).mono fun e w' h => ⟨h.1, h.2.symm⟩
  · obtain ⟨g, o, rfl, hc⟩ := h.2 h0
    exact (Ybaf.binary_Uvarint g o n c l w h.1 hc).mono fun e w' h => ⟨h.1, h.2.symm⟩

set_option maxRecDepth 100000 in
theorem uv_ok (ao : Option Addr) (n c : Nat) (hn : n ≤ 9223372036854775807) (l : List UInt8) (w : World) (h : At w ao n l) (v k : Nat) (hr : reader 0 l (Lib.uvarintDec l) = (v, k, true)) :
    Calls Ybaf.prog 10 #[.slice ao n c] w fun e w' => e = .returned (.tuple #[.int .u64 v, .int .i64 k, .nilIface]) ∧ w = w' := by
  have hd := lib_calls ao n c l w h
  have hb := from_bounds l 0 0
  have hD : Lib.uvarintDec l = Lib.uvarintFrom 0 0 l := rfl
  rw [← hD] at hb
  clear hD
  generalize Lib.uvarintDec l = D at hd hb hr
  obtain ⟨x, m⟩ := D
  simp only at hd hb
  unfold reader at hr
  split at hr
  · simp at hr
  rename_i hm
  simp only at hm
  obtain ⟨hb1, hb2⟩ := hb (by omega)
  have hl := h.1
  obtain ⟨kk, rfl⟩ : ∃ kk : Nat, m = (kk : Int) := ⟨m.toNat, by omega⟩
  split at hr
  · simp at hr
  rename_i hz
  simp only [Int.toNat_natCast, Nat.sub_zero] at hz hr
  simp only [Prod.mk.injEq, and_true] at hr
  obtain ⟨rfl, rfl⟩ := hr
  have H : Hid _ := hd
  clear hd
  have e0 : ((kk : Int) == 0) = false := beq_eq_false_iff_ne.2 (by omega)
  have e1 : ¬ ((kk : Int) < 0) := by omega
  by_cases h1 : 1 < kk
  · obtain ⟨g, o, rfl, hc⟩ := h.2 (by omega)
    obtain ⟨j, rfl⟩ : ∃ j, kk = j + 1 := ⟨kk - 1, by omega⟩
    have hcell := hc j (by omega)
    have hjn : (j : Int) < (n : Int) := by omega
    have hbz : ((l[j]'(by omega)).toNat : Int) ≠ 0 := by
      intro hq
      apply hz
      refine ⟨by omega, ?_⟩
      have e : l.getD (j + 1 - 1) 0 = l[j]'(by omega) := by simp [List.getD, show j < l.length by omega]
      rw [e]
      omega
    generalize (l[j]'(by omega)).toNat = bz at hcell hbz
    have e2 : ((bz : Int) == 0) = false := beq_eq_false_iff_ne.2 hbz
    have e3 : (1 : Int) < (j : Int) + 1 := by omega
    have e4 : ((j : Int) + 1 == 0) = false := beq_eq_false_iff_ne.2 (by omega)
    have e5 : ¬ ((j : Int) + 1 < 0) := by omega
    clear hb hb1 hb2 hz hm hc h hbz
    go_enter Ybaf.func10, Ybaf.ntmps10
    go_wp2_with fail
    refine Calls.mono H.out ?_
    rintro e w' ⟨rfl, rfl⟩
    go_wp2
    go_ret3
    exact ⟨rfl, rfl⟩
  · have e3 : decide ((1 : Int) < (kk : Int)) = false := decide_eq_false (by omega)
    clear hb hb1 hb2 hz hm h
    go_enter Ybaf.func10, Ybaf.ntmps10
    go_wp2_with fail
    refine Calls.mono H.out ?_
    rintro e w' ⟨rfl, rfl⟩
    go_wp2
    go_ret3
    exact ⟨rfl, rfl⟩

set_option maxRecDepth 100000 in
theorem uv_long (ao : Option Addr) (n c x : Nat) (m : Int) (hm : m < 0) (a : Addr) (w : World) (g : w.cell? ⟨1, 0, none⟩ = some (.iface 38 (.pointer (some a))))
    (hd : Calls Ybaf.prog 12 #[.slice ao n c] w fun e w' => e = .returned (.tuple #[.int .u64 x, .int .i64 m]) ∧ w = w') :
    Calls Ybaf.prog 10 #[.slice ao n c] w fun e w' => e = .returned (.tuple #[.int .u64 0, .int .i64 0, .iface 38 (.pointer (some a))]) ∧ ∃ k, w' = w.drewN k := by
  have H : Hid _ := hd
  clear hd
  have e0 : (m == 0) = false := beq_eq_false_iff_ne.2 (by omega)
  go_enter Ybaf.func10, Ybaf.ntmps10
  go_wp2_with fail
  refine Calls.mono H.out ?_
  rintro e w' ⟨rfl, rfl⟩
  go_wp2
  go_quiet (fail)
  go_wp2
  go_ret3
  exact ⟨rfl, ⟨_, rfl⟩⟩

set_option maxRecDepth 100000 in
theorem uv_cut (ao : Option Addr) (n c x : Nat) (a : Addr) (w : World) (g : w.cell? ⟨0, 0, none⟩ = some (.iface 38 (.pointer (some a))))
    (hd : Calls Ybaf.prog 12 #[.slice ao n c] w fun e w' => e = .returned (.tuple #[.int .u64 x, .int .i64 0]) ∧ w = w') :
    Calls Ybaf.prog 10 #[.slice ao n c] w fun e w' => e = .returned (.tuple #[.int .u64 0, .int .i64 0, .iface 38 (.pointer (some a))]) ∧ ∃ k, w' = w.drewN k := by
  have H : Hid _ := hd
  clear hd
  go_enter Ybaf.func10, Ybaf.ntmps10
  go_wp2_with fail
  refine Calls.mono H.out ?_
  rintro e w' ⟨rfl, rfl⟩
  go_wp2
  go_quiet (fail)
  go_wp2
  go_ret3
  exact ⟨rfl, ⟨_, rfl⟩⟩

set_option maxRecDepth 100000 in
theorem uv_padded (gb o n c x j : Nat) (hj : j < n) (hj1 : 1 ≤ j) (hn : n ≤ 9223372036854775807) (a : Addr) (w : World) (g : w.cell? ⟨2, 0, none⟩ = some (.iface 38 (.pointer (some a)))) (hcell : w.cell? ⟨gb, o + j, none⟩ = some (.int .u8 0))
    (hd : Calls Ybaf.prog 12 #[.slice (some ⟨gb, o, none⟩) n c] w fun e w' => e = .returned (.tuple #[.int .u64 x, .int .i64 ((j + 1 : Nat) : Int)]) ∧ w = w') :
    Calls Ybaf.prog 10 #[.slice (some ⟨gb, o, none⟩) n c] w fun e w' => e = .returned (.tuple #[.int .u64 0, .int .i64 0, .iface 38 (.pointer (some a))]) ∧ ∃ k, w' = w.drewN k := by
  have H : Hid _ := hd
  clear hd
  have hjn : (j : Int) < (n : Int) := by omega
  have e3 : (1 : Int) < (j : Int) + 1 := by omega
  have e4 : ((j : Int) + 1 == 0) = false := beq_eq_false_iff_ne.2 (by omega)
  have e5 : ¬ ((j : Int) + 1 < 0) := by omega
  go_enter Ybaf.func10, Ybaf.ntmps10
  go_wp2_with fail
  refine Calls.mono H.out ?_
  rintro e w' ⟨rfl, rfl⟩
  go_wp2
  go_quiet (fail)
  go_wp2
  go_ret3
  exact ⟨rfl, ⟨_, rfl⟩⟩

/-- One of the three sentinels comes back. -/
theorem uv_bad (ao : Option Addr) (n c : Nat) (hn : n ≤ 9223372036854775807) (l : List UInt8) (w : World) (h : At w ao n l) (hs : Sent w) (hr : (reader 0 l (Lib.uvarintDec l)).2.2 = false) :
    ∃ a s, w.cell? a = some (.string s) ∧ ∀ q, Calls Ybaf.prog 10 #[.slice ao n c] (w.drewN q) fun e w' => e = .returned (.tuple #[.int .u64 0, .int .i64 0, .iface 38 (.pointer (some a))]) ∧ ∃ m, w' = (w.drewN q).drewN m := by
  have hd := fun q => lib_calls ao n c l (w.drewN q) h
  have hb := from_bounds l 0 0
  have hD : Lib.uvarintDec l = Lib.uvarintFrom 0 0 l := rfl
  rw [← hD] at hb
  clear hD
  generalize Lib.uvarintDec l = D at hd hb hr
  obtain ⟨x, m⟩ := D
  simp only at hd hb
  unfold reader at hr
  have hl := h.1
  rcases Int.lt_trichotomy m 0 with hm | hm | hm
  · obtain ⟨a, s, g, t⟩ := hs 1 (by omega)
    refine ⟨a, s, t, fun q => ?_⟩
    have g' : (w.drewN q).cell? ⟨1, 0, none⟩ = some (.iface 38 (.pointer (some a))) := g
    exact uv_long ao n c x m hm a (w.drewN q) g' (hd q)
  · obtain ⟨a, s, g, t⟩ := hs 0 (by omega)
    refine ⟨a, s, t, fun q => ?_⟩
    subst hm
    have g' : (w.drewN q).cell? ⟨0, 0, none⟩ = some (.iface 38 (.pointer (some a))) := g
    exact uv_cut ao n c x a (w.drewN q) g' (hd q)
  · obtain ⟨kk, rfl⟩ : ∃ kk : Nat, m = (kk : Int) := ⟨m.toNat, by omega⟩
    obtain ⟨hb1, hb2⟩ := hb hm
    rw [if_neg (by simp only; omega)] at hr
    split at hr
    · rename_i hz
      simp only [Int.toNat_natCast, Nat.sub_zero] at hz
      obtain ⟨g, o, rfl, hc⟩ := h.2 (by omega)
      obtain ⟨j, rfl⟩ : ∃ j, kk = j + 1 := ⟨kk - 1, by omega⟩
      have hcell := hc j (by omega)
      have hbz : (l[j]'(by omega)).toNat = 0 := by
        have e : l.getD (j + 1 - 1) 0 = l[j]'(by omega) := by simp [List.getD, show j < l.length by omega]
        rw [← e]
        exact hz.2
      rw [hbz] at hcell
      obtain ⟨a, s, gg, t⟩ := hs 2 (by omega)
      refine ⟨a, s, t, fun q => ?_⟩
      have g' : (w.drewN q).cell? ⟨2, 0, none⟩ = some (.iface 38 (.pointer (some a))) := gg
      exact uv_padded g o n c x j (by omega) (by omega) hn a (w.drewN q) g' hcell (hd q)
    · simp at hr
end Go.Proofs.YbulkxjwFmt
