import Derived.Test.Qxb6000507aModsRows
import Derived.WalkKit
import Derived.WalkSpells
import Derived.WalkLawsBesides
import Derived.Deep.QuietTactic
import Derived.BigQuiet
namespace Go.Proofs.Qxb6000507aMods
open Go.RowKit

/-- How the index lies in memory: x's block 'xb' (two slices), the list's row (three cells an entry, the second is First), the table of levels, a row a level. 'S l': how many entries level l has; 'V l i': entry i of level l; 'm': how many levels lie above level 0. -/
structure Ix (w : World) (xb m : Nat) (S : Nat → Nat) (V : Nat → Nat → Int) (lv tv : Value) (xs : List Value) (G C : Nat → Nat) : Prop where
  hx : w.heap[xb]? = some (.cells #[lv, tv] 35 (0, 0))
  hl : w.ownsRow (xb + 1) 38 3 lv (S 0) xs
  hf : ∀ i, i < S 0 → xs[i * 3 + 1]? = some (.int .i64 (V 0 i))
  ht : w.ownsRow (xb + 1) 22 1 tv m ((List.range m).map fun l => .slice (some ⟨G l, 0, none⟩) (S (l + 1)) (C l))
  hr : ∀ l, l < m → w.ownsRow (xb + 1) 2 1 (.slice (some ⟨G l, 0, none⟩) (S (l + 1)) (C l)) (S (l + 1)) ((List.range (S (l + 1))).map fun i => .int .i64 (V (l + 1) i))
  hd : ∀ l l', l < m → l' < m → l ≠ l' → G l ≠ G l'

section
variable {w : World} {xb m : Nat} {S : Nat → Nat} {V : Nat → Nat → Int} {lv tv : Value} {xs : List Value} {G C : Nat → Nat}

theorem owns_form {w : World} {base : Nat} {e : TypeId} {size : Nat} {v : Value} {n : Nat} {xs : List Value} (h : w.ownsRow base e size v n xs) :
    ∃ ao cap, v = .slice ao n cap ∧ n ≤ maxLen ∧ (0 < n → ∃ g, ao = some ⟨g, 0, none⟩) := by
  obtain ⟨_, ⟨rfl, rfl⟩ | ⟨g, cap, cur, rfl, _, _, h1, h2, _⟩⟩ := h
  · exact ⟨none, 0, rfl, by omega, fun h => absurd h (by omega)⟩
  · exact ⟨_, cap, rfl, Nat.le_trans h1 h2, fun _ => ⟨g, rfl⟩⟩

theorem Ix.x0 (h : Ix w xb m S V lv tv xs G C) : w.cell? ⟨xb, 0, none⟩ = some lv := by simp [World.cell?, h.hx]
theorem Ix.x1 (h : Ix w xb m S V lv tv xs G C) : w.cell? ⟨xb, 1, none⟩ = some tv := by simp [World.cell?, h.hx]
theorem Ix.z0 (h : Ix w xb m S V lv tv xs G C) : w.frozen? ⟨xb, 0, none⟩ = false := by simp [World.frozen?, h.hx]
theorem Ix.z1 (h : Ix w xb m S V lv tv xs G C) : w.frozen? ⟨xb, 1, none⟩ = false := by simp [World.frozen?, h.hx]

theorem Ix.l0 (h : Ix w xb m S V lv tv xs G C) (i : Nat) (hi : i < S 0) :
    ∃ g cap, lv = .slice (some ⟨g, 0, none⟩) (S 0) cap ∧ w.cell? ⟨g, i * 3 + 1, none⟩ = some (.int .i64 (V 0 i)) := by
  obtain ⟨ao, cap, e, _, hg⟩ := owns_form h.hl
  obtain ⟨g, rfl⟩ := hg (by omega)
  have hl := h.hl
  rw [e] at hl
  refine ⟨g, cap, e, ?_⟩
  rw [hl.cellAt _ (by omega)]
  exact h.hf i hi

theorem Ix.t (h : Ix w xb m S V lv tv xs G C) (l : Nat) (hl : l < m) :
    ∃ g cap, tv = .slice (some ⟨g, 0, none⟩) m cap ∧ w.cell? ⟨g, l, none⟩ = some (.slice (some ⟨G l, 0, none⟩) (S (l + 1)) (C l)) := by
  obtain ⟨ao, cap, e, _, hg⟩ := owns_form h.ht
  obtain ⟨g, rfl⟩ := hg (by omega)
  have ht := h.ht
  rw [e] at ht
  refine ⟨g, cap, e, ?_⟩
  rw [ht.cellAt _ (by omega)]
  simp [hl]

theorem Ix.r (h : Ix w xb m S V lv tv xs G C) (l : Nat) (hl : l < m) (i : Nat) (hi : i < S (l + 1)) : w.cell? ⟨G l, i, none⟩ = some (.int .i64 (V (l + 1) i)) := by
  rw [(h.hr l hl).cellAt _ (by omega)]
  simp [hi]

theorem Ix.s0 (h : Ix w xb m S V lv tv xs G C) : S 0 ≤ 9223372036854775807 := by
  obtain ⟨_, _, _, h, _⟩ := owns_form h.hl
  unfold maxLen at h; exact h
theorem Ix.sl (h : Ix w xb m S V lv tv xs G C) (l : Nat) (hl : l < m) : S (l + 1) ≤ 9223372036854775807 := by
  obtain ⟨_, _, _, h, _⟩ := owns_form (h.hr l hl)
  unfold maxLen at h; exact h
theorem Ix.m0 (h : Ix w xb m S V lv tv xs G C) : m ≤ 9223372036854775807 := by
  obtain ⟨_, _, _, h, _⟩ := owns_form h.ht
  unfold maxLen at h; exact h
end

section
variable {xb m : Nat} {S : Nat → Nat} {V : Nat → Nat → Int} {lv tv : Value} {xs : List Value} {G C : Nat → Nat}

set_option maxHeartbeats 400000 in
theorem value0 (w : World) (h : Ix w xb m S V lv tv xs G C) (i : Nat) (hi : i < S 0) :
    Calls Trym.prog 18 #[.pointer (some ⟨xb, 0, none⟩), .int .i64 0, .int .i64 i] w fun e w' => e = .returned (.int .i64 (V 0 i)) ∧ w' = w := by
  obtain ⟨g, cap, rfl, hc⟩ := h.l0 i hi
  have x0 := h.x0
  have s0 := h.s0
  clear h
  go_enter Trym.func18, Trym.ntmps18
  go_wp2
  go_ret
  exact ⟨rfl, rfl⟩

set_option maxHeartbeats 400000 in
theorem value1 (w : World) (h : Ix w xb m S V lv tv xs G C) (l : Nat) (hl : l < m) (i : Nat) (hi : i < S (l + 1)) :
    Calls Trym.prog 18 #[.pointer (some ⟨xb, 0, none⟩), .int .i64 (l + 1 : Nat), .int .i64 i] w fun e w' => e = .returned (.int .i64 (V (l + 1) i)) ∧ w' = w := by
  obtain ⟨g, cap, rfl, hc⟩ := h.t l hl
  have hr := h.r l hl i hi
  have x1 := h.x1
  have s1 := h.sl l hl
  have m0 := h.m0
  clear h
  go_enter Trym.func18, Trym.ntmps18
  go_wp2
  go_ret
  exact ⟨rfl, rfl⟩

theorem value_any (w : World) (h : Ix w xb m S V lv tv xs G C) (l i : Nat) (x y : Int) (ex : x = l) (ey : y = i) (hl : l ≤ m) (hi : i < S l) :
    Calls Trym.prog 18 #[.pointer (some ⟨xb, 0, none⟩), .int .i64 x, .int .i64 y] w fun e w' => e = .returned (.int .i64 (V l i)) ∧ w' = w := by
  subst ex ey
  match l, hl, hi with
  | 0, _, hi => exact value0 w h i hi
  | l + 1, hl, hi => exact value1 w h l hl i hi
end
end Go.Proofs.Qxb6000507aMods
