/-
  WHAT THE LAW's LOOP KEEPS OF THE MAP OF MAPS: no Go in sight but the maps' own word 'IsM'.
-/
import Derived.Test.YbulkxjwMap
namespace Go.Proofs.Ybulkxjw
open Go.RowKit Go.Maps

theorem IsM.mono {w : World} {b n n' : Nat} {z : Value} {f : Int → Value} (h : IsM w b n z f) (hn : n ≤ n') : IsM w b n' z f := by
  obtain ⟨D, h1, h2⟩ := h
  exact ⟨D, h1.mono hn, h2⟩

theorem IsM.congr {w : World} {b n : Nat} {z : Value} {f f' : Int → Value} (h : IsM w b n z f) (hf : ∀ a, f a = f' a) : IsM w b n z f' := by
  have : f = f' := funext hf
  rw [← this]; exact h

structure Inv (w : World) (B k : Nat) (peer c : Int) (want : Value) (found : Bool) (m : Int → Option Nat) (g : Int → Int → Value) : Prop where
  outer : IsM w B k (.map none) (fun a => .map (m a))
  inner : ∀ a b, m a = some b → B < b ∧ IsM w b k (.slice none 0 0) (g a)
  apart : ∀ a a' b, m a = some b → m a' = some b → a = a'
  off : m peer = none → want = .slice none 0 0 ∧ found = false
  on : ∀ b, m peer = some b → g peer c = want
  notFound : found = false → want = .slice none 0 0

theorem inv_made (w : World) (peer c : Int) : Inv (w.alloc (.map #[] 0)) w.heap.size 0 peer c (.slice none 0 0) false (fun _ => none) (fun _ _ => .slice none 0 0) :=
  ⟨isM_made w _, fun _ _ h => by simp at h, fun _ _ _ h => by simp at h, fun _ => ⟨rfl, rfl⟩, fun _ h => by simp at h, fun _ => rfl⟩

theorem Inv.kept {w w' : World} {B k : Nat} {peer c : Int} {want : Value} {found : Bool} {m : Int → Option Nat} {g : Int → Int → Value} (h : Inv w B k peer c want found m g) (hg : w.grownBy w' none) : Inv w' B k peer c want found m g :=
  ⟨h.outer.kept hg (by simp), fun a b hb => ⟨(h.inner a b hb).1, (h.inner a b hb).2.kept hg (by simp)⟩, h.apart, h.off, h.on, h.notFound⟩

theorem Inv.old {w w' : World} {B k : Nat} {peer c : Int} {want : Value} {found : Bool} {m : Int → Option Nat} {g : Int → Int → Value} (h : Inv w B k peer c want found m g) {ep ec : Int} {b : Nat} {v : Value} (hb : m ep = some b)
    (hg : w.grownBy w' (some b)) (hm : IsM w' b (k + 1) (.slice none 0 0) (upd (g ep) ec v)) :
    Inv w' B (k + 1) peer c (if ep = peer ∧ ec = c then v else want) (if ep = peer ∧ ec = c then true else found) m (fun a => if a = ep then upd (g ep) ec v else g a) where
  outer := (h.outer.kept hg (fun e => by have := (h.inner ep b hb).1; cases e; omega)).mono (Nat.le_succ _)
  inner := by
    intro a b' hb'
    by_cases ha : a = ep
    · subst ha
      rw [hb] at hb'
      cases hb'
      rw [if_pos rfl]
      exact ⟨(h.inner a b hb).1, hm⟩
    · rw [if_neg ha]
      refine ⟨(h.inner a b' hb').1, ((h.inner a b' hb').2.kept hg ?_).mono (Nat.le_succ _)⟩
      intro e
      cases e
      exact ha (h.apart a ep b hb' hb)
  apart := h.apart
  off := by
    intro hp
    by_cases he : ep = peer ∧ ec = c
    · rw [← he.1, hb] at hp; cases hp
    · rw [if_neg he, if_neg he]; exact h.off hp
  on := by
    intro b' hb'
    by_cases ha : peer = ep
    · subst ha
      rw [if_pos rfl]
      by_cases hc : ec = c
      · simp [upd, hc]
      · have hc' : ¬ c = ec := fun e => hc e.symm
        simp [upd, hc, hc', h.on b' hb']
    · have ha' : ¬ ep = peer := fun e => ha e.symm
      simp [ha, ha', h.on b' hb']
  notFound := by
    intro hf
    by_cases he : ep = peer ∧ ec = c
    · rw [if_pos he] at hf; cases hf
    · rw [if_neg he] at hf ⊢; exact h.notFound hf

theorem Inv.fresh {w w2 w3 : World} {B k : Nat} {peer c : Int} {want : Value} {found : Bool} {m : Int → Option Nat} {g : Int → Int → Value} (h : Inv w B k peer c want found m g) {ep ec : Int} {v : Value} (hb : m ep = none)
    (hg2 : (w.alloc (.map #[] 0)).grownBy w2 (some B)) (hm2 : IsM w2 B (k + 1) (.map none) (upd (fun a => .map (m a)) ep (.map (some w.heap.size))))
    (hg3 : w2.grownBy w3 (some w.heap.size)) (hm3 : IsM w3 w.heap.size 1 (.slice none 0 0) (upd (fun _ => .slice none 0 0) ec v)) :
    Inv w3 B (k + 1) peer c (if ep = peer ∧ ec = c then v else want) (if ep = peer ∧ ec = c then true else found) (fun a => if a = ep then some w.heap.size else m a) (fun a => if a = ep then upd (fun _ => .slice none 0 0) ec v else g a) where
  outer := by
    have hB := h.outer.lt
    refine (hm2.kept hg3 (fun e => by cases e; omega)).congr fun a => ?_
    unfold upd
    split <;> rfl
  inner := by
    intro a b' hb'
    have hB := h.outer.lt
    by_cases ha : a = ep
    · subst ha
      simp only [if_true] at hb' ⊢
      cases hb'
      exact ⟨by omega, hm3.mono (by omega)⟩
    · rw [if_neg ha] at hb'
      rw [if_neg ha]
      have hi := h.inner a b' hb'
      have hl := hi.2.lt
      refine ⟨hi.1, ((((hi.2.kept (World.grownBy_alloc _ _ none) (by simp)).kept hg2 ?_).kept hg3 ?_)).mono (Nat.le_succ _)⟩
      · intro e; cases e; exact Nat.lt_irrefl _ hi.1
      · intro e; cases e; omega
  apart := by
    intro a a' b h1 h2
    by_cases ha : a = ep
    · by_cases ha' : a' = ep
      · rw [ha, ha']
      · rw [if_pos ha] at h1
        rw [if_neg ha'] at h2
        cases h1
        have := (h.inner a' _ h2).2.lt
        omega
    · by_cases ha' : a' = ep
      · rw [if_neg ha] at h1
        rw [if_pos ha'] at h2
        cases h2
        have := (h.inner a _ h1).2.lt
        omega
      · rw [if_neg ha] at h1
        rw [if_neg ha'] at h2
        exact h.apart a a' b h1 h2
  off := by
    intro hp
    by_cases ha : peer = ep
    · simp [ha] at hp
    · have ha' : ¬ ep = peer := fun e => ha e.symm
      simp only [if_neg ha] at hp
      simp only [ha', false_and, if_false]
      exact h.off hp
  on := by
    intro b' hb'
    by_cases ha : peer = ep
    · subst ha
      rw [if_pos rfl]
      by_cases hc : ec = c
      · simp [upd, hc]
      · have hc' : ¬ c = ec := fun e => hc e.symm
        simp [upd, hc, hc', (h.off hb).1]
    · have ha' : ¬ ep = peer := fun e => ha e.symm
      rw [if_neg ha] at hb'
      simp [ha, ha', h.on b' hb']
  notFound := by
    intro hf
    by_cases he : ep = peer ∧ ec = c
    · rw [if_pos he] at hf; cases hf
    · rw [if_neg he] at hf ⊢; exact h.notFound hf

/-- A block of cells is no map: what is written there turns no map. -/
theorem IsM.other {w w' : World} {b n L : Nat} {z : Value} {f : Int → Value} (h : IsM w b n z f) (hg : w.grownBy w' (some L)) {cs : Array Value} {e : TypeId} {fr : Nat × Nat} (hL : w.heap[L]? = some (.cells cs e fr)) : IsM w' b n z f := by
  refine h.kept hg fun e1 => ?_
  cases e1
  obtain ⟨D, ⟨es, clock, hb, _⟩, _⟩ := h
  rw [hL] at hb
  cases hb

theorem Inv.other {w w' : World} {B k L : Nat} {peer c : Int} {want : Value} {found : Bool} {m : Int → Option Nat} {g : Int → Int → Value} (h : Inv w B k peer c want found m g) (hg : w.grownBy w' (some L))
    {cs : Array Value} {e : TypeId} {fr : Nat × Nat} (hL : w.heap[L]? = some (.cells cs e fr)) : Inv w' B k peer c want found m g :=
  ⟨h.outer.other hg hL, fun a b hb => ⟨(h.inner a b hb).1, (h.inner a b hb).2.other hg hL⟩, h.apart, h.off, h.on, h.notFound⟩

/-- A row of words is no row of pointers. -/
theorem row_other {w w' : World} {base n L : Nat} {v : Value} {xs : List Value} (h : w.ownsRow base 56 1 v n xs) (hg : w.grownBy w' (some L)) {cs : Array Value} {fr : Nat × Nat} (hL : w.heap[L]? = some (.cells cs 30 fr)) : w'.ownsRow base 56 1 v n xs := by
  refine h.kept hg ?_
  cases hv : v.ownBlock with
  | none => exact .inl rfl
  | some k =>
    refine .inr fun e => ?_
    cases e
    rcases h.2 with ⟨rfl, _⟩ | ⟨g, cap, cur, rfl, _, hgg, _⟩
    · simp [Value.ownBlock] at hv
    · simp [Value.ownBlock] at hv
      subst hv
      rw [hgg] at hL
      simp at hL

theorem grownBy_setCell (w : World) (a : Addr) (u : Value) : w.grownBy (w.setCell a u) (some a.block) :=
  ⟨rfl, rfl, rfl, by simp [World.setCell], fun k _ hk => Below.heap_setCell w a u k (fun e => hk (by rw [e]))⟩

theorem heap_setCell_at {w : World} {L j : Nat} {cs : Array Value} {e : TypeId} {fr : Nat × Nat} (h : w.heap[L]? = some (.cells cs e fr)) (u : Value) : (w.setCell ⟨L, j, none⟩ u).heap[L]? = some (.cells (cs.setIfInBounds j u) e fr) := by
  simp [World.setCell, Array.getElem?_modify, h]

theorem grownBy_of_below {w w' : World} (h : Below w.heap.size w w') : w.grownBy w' none := ⟨h.os, h.tape, h.output, h.size, fun k hk _ => h.block k hk⟩

theorem below_al {w w' : World} (h : Below w.heap.size w w') (o : Obj) : Below w.heap.size w (w'.alloc o) := h.alloc h.size o

theorem cell_al {w : World} {a : Addr} {v : Value} (h : w.cell? a = some v) (o : Obj) : (w.alloc o).cell? a = some v := (World.grownBy_alloc w o none).cell h (by simp)

theorem grownBy_drew (w : World) (r : Option Nat) : w.grownBy w.drew r := ⟨rfl, rfl, rfl, Nat.le_refl _, fun _ _ _ => rfl⟩

end Go.Proofs.Ybulkxjw
