import Derived.Test.YbulkxjwMap
import Derived.Deep.QuietTactic
import Derived.BigQuiet
import Derived.WalkSmall
import Derived.WalkSpells
import Derived.WalkLawsBesides
namespace Go.Proofs.Ybulkxjw
open Go.RowKit Go.Maps

theorem eql_nilFunc (w : World) : (binOp .eql 63 .nilFunc .nilFunc).run Yba.prog w = .ok (.bool true) w := by kernel_rfl

theorem assert_nil (w : World) : (Instr.typeAssert .nilIface 61 37 true).run Yba.prog w = .ok (.tuple #[.pointer none, .bool false]) w := by kernel_rfl
theorem assert_some (s : Value) (w : World) : (Instr.typeAssert (.iface 37 s) 61 37 true).run Yba.prog w = .ok (.tuple #[s, .bool true]) w := by kernel_rfl
theorem zero28 (w : World) : (zeroValue 28).run Yba.prog w = .ok (.map none) w := by kernel_rfl
theorem zero25 (w : World) : (zeroValue 25).run Yba.prog w = .ok (.slice none 0 0) w := by kernel_rfl

set_option maxRecDepth 100000 in
theorem part_none (kb : Nat) (a : Option Addr) (n c : Nat) (hn : n ≤ 1) (w : World) (h0 : w.cell? ⟨kb, 0, none⟩ = some (.slice a n c)) :
    Calls Yba.prog 8 #[.pointer (some ⟨kb, 0, none⟩), .int .u8 1, .nilFunc] w fun e w' => e = .returned .nilIface ∧ w = w' := by
  have hd : decide ((1 : Int) < (n : Int)) = false := decide_eq_false (by omega)
  have he := eql_nilFunc
  go_enter Yba.func8, Yba.ntmps8
  go_wp2
  go_ret
  exact ⟨rfl, rfl⟩

set_option maxRecDepth 100000 in
theorem part_some (kb pb : Nat) (s : Value) (w : World) (h0 : w.cell? ⟨kb, 0, none⟩ = some (.slice (some ⟨pb, 0, none⟩) 2 2)) (h1 : w.cell? ⟨pb, 1, none⟩ = some (.iface 37 s)) :
    Calls Yba.prog 8 #[.pointer (some ⟨kb, 0, none⟩), .int .u8 1, .nilFunc] w fun e w' => e = .returned (.iface 37 s) ∧ w = w' := by
  go_enter Yba.func8, Yba.ntmps8
  go_wp2
  go_ret
  exact ⟨rfl, rfl⟩

set_option maxRecDepth 100000 in
theorem learned_nil (xb L p : Nat) (hp : p < 4) (w : World) (h0 : w.cell? ⟨xb, 8, none⟩ = some (.slice (some ⟨L, 0, none⟩) 4 4)) (h1 : w.cell? ⟨L, p, none⟩ = some (.pointer none)) :
    Calls Yba.prog 7 #[.pointer (some ⟨xb, 0, none⟩), .int .i64 p] w fun e w' => e = .returned (.pointer none) ∧ w = w' := by
  have hp4 : (p : Int) < 4 := by omega
  go_enter Yba.func7, Yba.ntmps7
  go_wp2
  go_ret
  exact ⟨rfl, rfl⟩

set_option maxRecDepth 100000 in
theorem learned_none (xb L p : Nat) (hp : p < 4) (kb : Nat) (a : Option Addr) (n c : Nat) (hn : n ≤ 1) (w : World) (h0 : w.cell? ⟨xb, 8, none⟩ = some (.slice (some ⟨L, 0, none⟩) 4 4))
    (h1 : w.cell? ⟨L, p, none⟩ = some (.pointer (some ⟨kb, 0, none⟩))) (h2 : w.cell? ⟨kb, 0, none⟩ = some (.slice a n c)) :
    Calls Yba.prog 7 #[.pointer (some ⟨xb, 0, none⟩), .int .i64 p] w fun e w' => e = .returned (.pointer none) ∧ w = w' := by
  have hp4 : (p : Int) < 4 := by omega
  have as0 := assert_nil
  have as1 := assert_some
  go_enter Yba.func7, Yba.ntmps7
  go_wp2_with fail
  refine (part_none kb a n c hn w h2).mono ?_
  rintro e w' ⟨rfl, rfl⟩
  go_wp2
  go_ret
  exact ⟨rfl, rfl⟩

set_option maxRecDepth 100000 in
theorem learned_some (xb L p : Nat) (hp : p < 4) (kb pb : Nat) (s : Value) (w : World) (h0 : w.cell? ⟨xb, 8, none⟩ = some (.slice (some ⟨L, 0, none⟩) 4 4))
    (h1 : w.cell? ⟨L, p, none⟩ = some (.pointer (some ⟨kb, 0, none⟩))) (h2 : w.cell? ⟨kb, 0, none⟩ = some (.slice (some ⟨pb, 0, none⟩) 2 2)) (h3 : w.cell? ⟨pb, 1, none⟩ = some (.iface 37 s)) :
    Calls Yba.prog 7 #[.pointer (some ⟨xb, 0, none⟩), .int .i64 p] w fun e w' => e = .returned s ∧ w = w' := by
  have hp4 : (p : Int) < 4 := by omega
  have as0 := assert_nil
  have as1 := assert_some
  go_enter Yba.func7, Yba.ntmps7
  go_wp2_with fail
  refine (part_some kb pb s w h2 h3).mono ?_
  rintro e w' ⟨rfl, rfl⟩
  go_wp2
  go_ret
  exact ⟨rfl, rfl⟩

set_option maxRecDepth 100000 in
/-- The peer's part is not there: nil. -/
theorem heard_off (xb : Nat) (p peer c : Int) (w : World)
    (hl : Calls Yba.prog 7 #[.pointer (some ⟨xb, 0, none⟩), .int .i64 p] w fun e w' => e = .returned (.pointer none) ∧ w = w') :
    Calls Yba.prog 5 #[.pointer (some ⟨xb, 0, none⟩), .int .i64 p, .int .i64 peer, .int .i64 c] w fun e w' => e = .returned (.slice none 0 0) ∧ w = w' := by
  have H : Hid _ := hl
  clear hl
  go_enter Yba.func5, Yba.ntmps5
  go_wp2_with fail
  refine Calls.mono H.out ?_
  rintro e w' ⟨rfl, rfl⟩
  go_wp2
  go_ret
  exact ⟨rfl, rfl⟩

set_option maxRecDepth 100000 in
/-- The part is there, and in its map nothing for the peer. -/
theorem heard_nil (xb : Nat) (p peer c : Int) (w : World) (sb hb n : Nat) (f : Int → Value) (hs : w.cell? ⟨sb, 2, none⟩ = some (.map (some hb))) (hm : IsM w hb n (.map none) f) (hf : f peer = .map none) (hp : (Lit.int .i64 peer).wf = true) (hc : (Lit.int .i64 c).wf = true)
    (hl : Calls Yba.prog 7 #[.pointer (some ⟨xb, 0, none⟩), .int .i64 p] w fun e w' => e = .returned (.pointer (some ⟨sb, 0, none⟩)) ∧ w = w') :
    Calls Yba.prog 5 #[.pointer (some ⟨xb, 0, none⟩), .int .i64 p, .int .i64 peer, .int .i64 c] w fun e w' => e = .returned (.slice none 0 0) ∧ w = w' := by
  have H : Hid _ := hl
  have F : Hid _ := hf
  clear hl hf
  go_enter Yba.func5, Yba.ntmps5
  go_wp2_with fail
  refine Calls.mono H.out ?_
  rintro e w' ⟨rfl, rfl⟩
  go_wp2_with (first
    | (at_lookup; refine wpList_look _ rfl _ _ 23 28 rfl Yba.underlying23 hb n (.map none) f peer rfl rfl hm (zero28 _) hp ?_; rw [F.out])
    | (at_lookup; refine wpList_look_nil _ rfl _ _ 28 25 rfl Yba.underlying28 (.slice none 0 0) c rfl rfl (zero25 _) hc ?_))
  go_ret
  exact ⟨rfl, rfl⟩

set_option maxRecDepth 100000 in
/-- The part is there, and a map for the peer. -/
theorem heard_on (xb : Nat) (p peer c : Int) (w : World) (sb hb n : Nat) (f : Int → Value) (hs : w.cell? ⟨sb, 2, none⟩ = some (.map (some hb))) (hm : IsM w hb n (.map none) f) (b m : Nat) (g : Int → Value) (hf : f peer = .map (some b)) (hg : IsM w b m (.slice none 0 0) g) (v : Value) (hv : g c = v)
    (hp : (Lit.int .i64 peer).wf = true) (hc : (Lit.int .i64 c).wf = true)
    (hl : Calls Yba.prog 7 #[.pointer (some ⟨xb, 0, none⟩), .int .i64 p] w fun e w' => e = .returned (.pointer (some ⟨sb, 0, none⟩)) ∧ w = w') :
    Calls Yba.prog 5 #[.pointer (some ⟨xb, 0, none⟩), .int .i64 p, .int .i64 peer, .int .i64 c] w fun e w' => e = .returned v ∧ w = w' := by
  have H : Hid _ := hl
  have F : Hid _ := hf
  have V : Hid _ := hv
  clear hl hf hv
  go_enter Yba.func5, Yba.ntmps5
  go_wp2_with fail
  refine Calls.mono H.out ?_
  rintro e w' ⟨rfl, rfl⟩
  go_wp2_with (first
    | (at_lookup; refine wpList_look _ rfl _ _ 23 28 rfl Yba.underlying23 hb n (.map none) f peer rfl rfl hm (zero28 _) hp ?_; rw [F.out])
    | (at_lookup; refine wpList_look _ rfl _ _ 28 25 rfl Yba.underlying28 b m (.slice none 0 0) g c rfl rfl hg (zero25 _) hc ?_; rw [V.out]))
  go_ret
  exact ⟨rfl, rfl⟩
end Go.Proofs.Ybulkxjw
