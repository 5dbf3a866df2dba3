import Derived.Test.Qxb6000507aModsClone
import Derived.Deep.RegionWith
namespace Go.Proofs.Qxb6000507aMods
open Go.RowKit

/-- The index lies at block xb and is right for the first n of fs. -/
def HasIx (w : World) (xb : Nat) (fs : Nat → Int) (n : Nat) : Prop :=
  ∃ (m : Nat) (S : Nat → Nat) (V : Nat → Nat → Int) (lv tv : Value) (xs : List Value) (G C : Nat → Nat), Ix w xb m S V lv tv xs G C ∧ Good fs n m S V

theorem HasIx.kept {w W : World} {xb n : Nat} {fs : Nat → Int} (h : HasIx w xb fs n) (hg : w.grownBy W none) : HasIx W xb fs n := by
  obtain ⟨m, S, V, lv, tv, xs, G, C, h, g⟩ := h
  exact ⟨m, S, V, lv, tv, xs, G, C, h.kept hg, g⟩
theorem HasIx.lt {w : World} {xb n : Nat} {fs : Nat → Int} (h : HasIx w xb fs n) : xb < w.heap.size := by
  obtain ⟨m, S, V, lv, tv, xs, G, C, h, g⟩ := h
  exact lt_of_block h.hx
theorem HasIx.empty (w : World) (fs : Nat → Int) : HasIx (w.alloc (.cells #[.slice none 0 0, .slice none 0 0] 35)) w.heap.size fs 0 := by
  refine ⟨0, fun _ => 0, fun _ _ => 0, _, _, [], fun _ => 0, fun _ => 0, ⟨heap_alloc_new _ _, World.ownsRow_nil _ _ _ _, fun i hi => absurd hi (by omega), World.ownsRow_nil _ _ _ _, fun l hl => absurd hl (by omega), fun l _ hl => absurd hl (by omega)⟩, ⟨rfl, fun l hl i => by simp, fun l hl i hi => absurd hi (by omega), fun l => by simp⟩⟩

theorem grown_drewN {w w' : World} {row : Option Nat} (h : w.grownBy w' row) (n : Nat) : w.grownBy (w'.drewN n) row := ⟨h.os, h.tape, h.output, h.size, h.block⟩

set_option maxRecDepth 100000 in
set_option maxHeartbeats 400000 in
theorem zzadd_any (w : World) (xb n : Nat) (fs : Nat → Int) (h : HasIx w xb fs n) (hn : n ≤ 1000000) (p f q : Int) (hf : f = fs n) :
    Calls Trym.prog 12 #[.pointer (some ⟨xb, 0, none⟩), .agg #[.int .i64 p, .int .i64 f, .int .i64 q]] w fun e w' => e = .returned (.tuple #[]) ∧ Below xb w w' ∧ HasIx w' xb fs (n + 1) := by
  have hlt := h.lt
  have h2 := h.kept (World.grownBy_alloc w (.cells #[.int .i64 p, .int .i64 f, .int .i64 q] 38) none)
  have HF := hide hf
  obtain ⟨m, S, V, lv, tv, xs, G, C, hix, hg⟩ := h2
  clear hf h
  go_enter Trym.func12, Trym.ntmps12
  go_wp2_with fail
  refine (add_any _ hix hg hn p f q HF).mono ?_
  rintro e w' ⟨rfl, hb, hh⟩
  go_wp2_with fail
  go_end0
  exact ⟨rfl, ((Below.refl _ _).alloc (by omega) _).trans hb, hh⟩

set_option maxHeartbeats 400000 in
theorem zzfirst_any (w : World) (xb n : Nat) (fs : Nat → Int) (h : HasIx w xb fs n) (frm : Nat) (hfrm : frm ≤ 9223372036854775807) (x b : Int) (hx : x = frm) :
    Calls Trym.prog 9 #[.pointer (some ⟨xb, 0, none⟩), .int .i64 x, .int .i64 b] w fun e w' => (∃ r : Nat, e = .returned (.int .i64 r) ∧ IsFirst fs n frm b r) ∧ w' = w := by
  subst hx
  obtain ⟨m, S, V, lv, tv, xs, G, C, hix, hg⟩ := h
  go_enter Trym.func9, Trym.ntmps9
  go_wp2_with fail
  refine (first_any _ hix hg frm hfrm b).mono ?_
  rintro e w' ⟨⟨r, rfl, hr⟩, rfl⟩
  go_wp2_with fail
  go_ret
  exact ⟨⟨r, rfl, hr⟩, rfl⟩

set_option maxRecDepth 100000 in
set_option maxHeartbeats 1000000 in
theorem build_any (w : World) (v : Value) (n : Nat) (fs : Nat → Int) (hr : Row .i64 w w.heap.size v n fs) (hn : n ≤ 1000000) :
    Calls Trym.prog 8 #[v, .int .i64 n] w fun e w' => e = .returned (.pointer (some ⟨w.heap.size, 0, none⟩)) ∧ HasIx w' w.heap.size fs n ∧ Below w.heap.size w w' := by
  obtain ⟨ao, cap, rfl, hr⟩ := hr
  have h0 := HasIx.empty w fs
  have b0 : Below w.heap.size w (w.alloc (.cells #[.slice none 0 0, .slice none 0 0] 35)) := (Below.refl _ _).alloc (Nat.le_refl _) _
  go_enter Trym.func8, Trym.ntmps8
  go_wp2_with fail
  generalize w.alloc (.cells #[.slice none 0 0, .slice none 0 0] 35) = W at *
  go_loopw [6] (fun i wr => ∃ k : Nat, k ≤ n ∧ i = .int .i64 k ∧ HasIx wr w.heap.size fs k ∧ Below w.heap.size w wr) (fun i _ => n - (intOf i).toNat)
  case atStart => exact ⟨0, Nat.zero_le _, rfl, h0, b0⟩
  case round =>
    obtain ⟨k, hk, rfl, hix, hb⟩ := hrel
    clear h0 b0
    by_cases hlt : k < n
    · obtain ⟨b, rfl, hbl, hc⟩ := hr (by omega)
      have hck : wr.cell? ⟨b, k, none⟩ = some (.int .i64 (fs k)) := (hb.cell (p := ⟨b, k, none⟩) hbl).trans (hc k hlt)
      clear hc hr
      have hixd := hix.kept (grown_drew (World.grownBy.refl wr none))
      have HB := hide hb
      go_wp2_with fail
      go_region_with (go_at_call 12; refine (zzadd_any _ w.heap.size k fs hixd (by omega) _ _ _ rfl).mono ?_; rintro e w' ⟨rfl, hb', hix'⟩; have R := And.intro hix' (HB.out.drew.trans hb'); clear hb' hix')
      all_goals (clear hixd hck hix; go_wp2_with fail)
      all_goals go_roundw
      all_goals first | exact ⟨k + 1, by omega, by go_num, R.1, R.2⟩ | (simp [intOf]; omega)
    · have e : k = n := by omega
      subst e
      go_wp2_with fail
      go_ret
      exact ⟨rfl, hix, hb⟩

set_option maxHeartbeats 400000 in
theorem scan_any (w : World) (v : Value) (N n B : Nat) (fs : Nat → Int) (hr : Row .i64 w B v N fs) (hnN : n ≤ N) (hn : N ≤ 1000000) (frm : Nat) (hfrm : frm ≤ 1000000) (x y b : Int) (hx : x = n) (hy : y = frm) :
    Calls Trym.prog 13 #[v, .int .i64 x, .int .i64 y, .int .i64 b] w fun e w' => (∃ r : Nat, e = .returned (.int .i64 r) ∧ IsFirst fs n frm b r) ∧ w' = w := by
  subst hx hy
  obtain ⟨ao, cap, rfl, hr⟩ := hr
  go_enter Trym.func13, Trym.ntmps13
  go_wp2_with fail
  go_loop [9] (fun i => ∃ k : Nat, frm ≤ k ∧ k ≤ 1000000 ∧ i = .int .i64 k ∧ ∀ j, frm ≤ j → j < k → j < n → b ≤ fs j) (fun i => n - (intOf i).toNat)
  case atStart => exact ⟨frm, Nat.le_refl _, hfrm, rfl, fun j h1 h2 => by omega⟩
  case round =>
    obtain ⟨k, hk1, hk2, rfl, hall⟩ := hrel
    have HA := hide hall
    clear hall
    by_cases hlt : k < n
    · obtain ⟨bb, rfl, _, hc⟩ := hr (by omega)
      have hck := hc k (by omega)
      clear hc hr
      by_cases hv : fs k < b
      · go_wp2_with fail
        go_ret
        exact ⟨⟨k, rfl, .inr ⟨hk1, hlt, hv, fun j h1 h2 => HA.out j h1 h2 (by omega)⟩⟩, rfl⟩
      · go_wp2_with fail
        go_round
        case rel =>
          refine ⟨k + 1, by omega, by omega, by go_num, fun j h1 h2 h3 => ?_⟩
          by_cases e : j = k
          · subst e; omega
          · exact HA.out j h1 (by omega) h3
        case measure => simp [intOf]; omega
    · go_wp2_with fail
      go_ret
      exact ⟨⟨n, rfl, .inl ⟨rfl, fun j h1 h2 => HA.out j h1 (by omega) h2⟩⟩, rfl⟩

set_option maxHeartbeats 400000 in
theorem fits_any (w : World) (v : Value) (n B : Nat) (fs : Nat → Int) (hr : Row .i64 w B v n fs) (hn : n ≤ 1000000) (frm : Nat) (_hfrm : frm ≤ 9223372036854775807) (r : Nat) (b : Int) (x y z : Int) (hx : x = n) (hy : y = r) (hz : z = frm) (hf : IsFirst fs n frm b r) :
    Calls Trym.prog 15 #[v, .int .i64 x, .int .i64 y, .int .i64 z, .int .i64 b] w fun e w' => e = .returned (.bool true) ∧ w' = w := by
  subst hx hy hz
  obtain ⟨ao, cap, rfl, hr⟩ := hr
  rcases hf with ⟨rfl, _⟩ | ⟨h1, h2, h3, _⟩
  · go_enter Trym.func15, Trym.ntmps15
    go_wp2
    go_ret
    exact ⟨rfl, rfl⟩
  · obtain ⟨bb, rfl, _, hc⟩ := hr (by omega)
    have hck := hc r h2
    have hne : ((r : Int) == (n : Int)) = false := beq_eq_false_iff_ne.2 (by omega)
    clear hc hr
    go_enter Trym.func15, Trym.ntmps15
    go_wp2
    go_ret
    exact ⟨rfl, rfl⟩

set_option maxHeartbeats 400000 in
theorem bytes1_any (w : World) (a : Option Addr) (len cap : Nat) (hm : len ≤ 9223372036854775807) (x y : Value) :
    Calls Trym.prog 6 #[.slice a len cap, x, y] w fun e w' => e = .returned (.bool (decide (len ≤ 1048576))) ∧ w' = w := by
  by_cases h : len ≤ 1048576
  · go_enter Trym.func6, Trym.ntmps6
    go_wp2
    go_ret
    exact ⟨by simp [h], rfl⟩
  · go_enter Trym.func6, Trym.ntmps6
    go_wp2
    go_ret
    exact ⟨by simp [h], rfl⟩

set_option maxHeartbeats 400000 in
theorem bytes3_any (w : World) (a : Option Addr) (len cap : Nat) (hm : len ≤ 9223372036854775807) (x y z u : Value) :
    Calls Trym.prog 14 #[.slice a len cap, x, y, z, u] w fun e w' => e = .returned (.bool (decide (len ≤ 1048576))) ∧ w' = w := by
  by_cases h : len ≤ 1048576
  · go_enter Trym.func14, Trym.ntmps14
    go_wp2
    go_ret
    exact ⟨by simp [h], rfl⟩
  · go_enter Trym.func14, Trym.ntmps14
    go_wp2
    go_ret
    exact ⟨by simp [h], rfl⟩

set_option maxHeartbeats 1000000 in
theorem bytes2_any (w : World) (a b c : Option Addr) (l1 l2 l3 c1 c2 c3 : Nat) (h1 : l1 ≤ 9223372036854775807) (h2 : l2 ≤ 9223372036854775807) (h3 : l3 ≤ 9223372036854775807) :
    Calls Trym.prog 10 #[.slice a l1 c1, .slice b l2 c2, .slice c l3 c3] w fun e w' => e = .returned (.bool (decide (l1 + l2 + l3 ≤ 1048576))) ∧ w' = w := by
  by_cases g1 : l1 ≤ 1048576
  · by_cases g2 : l2 ≤ 1048576
    · by_cases g3 : l3 ≤ 1048576
      · by_cases g4 : l1 + l2 ≤ 1048576
        · by_cases g5 : l1 + l2 + l3 ≤ 1048576
          all_goals
            go_enter Trym.func10, Trym.ntmps10
            go_wp2
            go_ret
            exact ⟨by simp [g5], rfl⟩
        · have g5 : ¬ l1 + l2 + l3 ≤ 1048576 := by omega
          go_enter Trym.func10, Trym.ntmps10
          go_wp2
          go_ret
          exact ⟨by simp [g5], rfl⟩
      · have g5 : ¬ l1 + l2 + l3 ≤ 1048576 := by omega
        by_cases g4 : l1 + l2 ≤ 1048576
        all_goals
          go_enter Trym.func10, Trym.ntmps10
          go_wp2
          go_ret
          exact ⟨by simp [g5], rfl⟩
    · have g5 : ¬ l1 + l2 + l3 ≤ 1048576 := by omega
      go_enter Trym.func10, Trym.ntmps10
      go_wp2
      go_ret
      exact ⟨by simp [g5], rfl⟩
  · have g5 : ¬ l1 + l2 + l3 ≤ 1048576 := by omega
    go_enter Trym.func10, Trym.ntmps10
    go_wp2
    go_ret
    exact ⟨by simp [g5], rfl⟩
end Go.Proofs.Qxb6000507aMods
