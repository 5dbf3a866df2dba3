import Derived.Test.Qxb6000507aModsBuild
namespace Go.Proofs.Qxb6000507aMods
open Go.RowKit

theorem Came.len {k : IntKind} {w : World} {a : Option Addr} {len cap : Nat} {zs : List Int} (h : Came k w a len cap zs) : len ≤ 9223372036854775807 := by
  rcases h with ⟨_, rfl, _⟩ | ⟨x, _, h1, h2, _⟩
  · omega
  · unfold maxLen at h2; omega

theorem zzfirst_at (w : World) (xb n : Nat) (fs : Nat → Int) (h : HasIx w xb fs n) (frm : Nat) (hfrm : frm ≤ 9223372036854775807) (x b : Int) (hx : x = frm) (r : Nat) (hr : IsFirst fs n frm b r) :
    Calls Trym.prog 9 #[.pointer (some ⟨xb, 0, none⟩), .int .i64 x, .int .i64 b] w fun e w' => e = .returned (.int .i64 r) ∧ w' = w := by
  refine (zzfirst_any w xb n fs h frm hfrm x b hx).mono ?_
  rintro e w' ⟨⟨r', rfl, hr'⟩, rfl⟩
  rw [hr.unique hr']
  exact ⟨rfl, rfl⟩

theorem HasIx.setOther {w : World} {xb n nb N i : Nat} {fs : Nat → Int} {F : Nat → Value} (h : HasIx w xb fs n) (hr : w.rowIs nb 3 N F) (v : Value) : HasIx (w.setCell ⟨nb, i, none⟩ v) xb fs n := by
  obtain ⟨m, S, V, lv, tv, xs, G, C, h, g⟩ := h
  obtain ⟨c, hc, _, _⟩ := hr
  have ks : ∀ {e size v' n ys}, e ≠ 3 → w.ownsRow (xb + 1) e size v' n ys → (w.setCell ⟨nb, i, none⟩ v).ownsRow (xb + 1) e size v' n ys :=
    fun he hh => ownsRow_setCell_other hh (own_ne_block hh hc he) _
  refine ⟨m, S, V, lv, tv, xs, G, C, ⟨?_, ks (by decide) h.hl, h.hf, ks (by decide) h.ht, fun l hl => ks (by decide) (h.hr l hl), h.hd⟩, g⟩
  have hne : xb ≠ nb := fun e => by rw [← e, h.hx] at hc; simp at hc
  rw [Below.heap_setCell _ _ _ _ hne]; exact h.hx

theorem isFirst_end (fs : Nat → Int) (n frm : Nat) (b : Int) (h : n ≤ frm) : IsFirst fs n frm b n := .inl ⟨rfl, fun j h1 h2 => by omega⟩
theorem isFirst_hit {fs : Nat → Int} {n i : Nat} {b : Int} (hi : i < n) (h : fs i < b) : IsFirst fs n i b i := .inr ⟨Nat.le_refl _, hi, h, fun j h1 h2 => by omega⟩
theorem isFirst_skip {fs : Nat → Int} {n i r : Nat} {b : Int} (h : b ≤ fs i) (k : IsFirst fs n (i + 1) b r) : IsFirst fs n i b r := by
  have key : ∀ j, i ≤ j → (i + 1 ≤ j → b ≤ fs j) → b ≤ fs j := fun j h1 h2 => by
    by_cases e : j = i
    · subst e; exact h
    · exact h2 (by omega)
  rcases k with ⟨k1, k2⟩ | ⟨k1, k2, k3, k4⟩
  · exact .inl ⟨k1, fun j h1 h2 => key j h1 (fun h3 => k2 j h3 h2)⟩
  · exact .inr ⟨by omega, k2, k3, fun j h1 h2 => key j h1 (fun h3 => k4 j h3 h2)⟩

/-- The places from k on are filled in. -/
def Filled (fs : Nat → Int) (n : Nat) (b : Int) (k : Nat) (N : Nat → Nat) : Prop := ∀ j, k ≤ j → j ≤ n → IsFirst fs n j b (N j)

theorem filled_step {fs : Nat → Int} {n i u : Nat} {b : Int} {N : Nat → Nat} (h : Filled fs n b (i + 1) N) (hu : IsFirst fs n i b u) : Filled fs n b i (fun j => if j = i then u else N j) := fun j h1 h2 => by
  by_cases e : j = i
  · subst e; simpa using hu
  · simpa [e] using h j (by omega) h2

theorem row_step {w : World} {nb M i : Nat} {N : Nat → Nat} (h : w.rowIs nb 3 M (fun j => .int .i64 (N j : Nat))) (u : Nat) (v : Value) (hv : v = .int .i64 u) : (w.setCell ⟨nb, i, none⟩ v).rowIs nb 3 M (fun j => .int .i64 ((if j = i then u else N j : Nat) : Int)) := by
  subst hv
  refine (h.set i _).congr fun j _ => ?_
  by_cases e : j = i
  · simp [e]
  · simp [e]

theorem row_made (w : World) (n : Nat) : (w.alloc (.cells ((madeCells #[Value.int .i64 0] (n + 1)).setIfInBounds n (.int .i64 n)) 3)).rowIs w.heap.size 3 (n + 1) (fun j => .int .i64 (((fun j => if j = n then n else 0) j : Nat) : Int)) := by
  have h := World.rowIs_alloc w ((madeCells #[Value.int .i64 0] (n + 1)).setIfInBounds n (.int .i64 n)) 3 (fun j => .int .i64 (((fun j => if j = n then n else 0) j : Nat) : Int)) (fun i hi => by
    simp only [Array.size_setIfInBounds, size_madeCells] at hi
    rw [Array.getElem?_setIfInBounds]
    by_cases e : n = i
    · subst e; simp [size_madeCells]
    · have : ¬ i = n := fun h => e h.symm
      simp [e, this, madeCells, hi, Nat.mod_one])
  simpa [size_madeCells] using h

set_option maxRecDepth 100000 in
set_option maxHeartbeats 2000000 in
theorem law1 (a0 : Option Addr) (len0 cap0 : Nat) (z0 : List Int) (a1 a2 : Int) (w : World) (h0 : Came .i64 w a0 len0 cap0 z0) (h1 : a1 ≤ 9223372036854775807) :
    Calls Trym.prog 3 #[.slice a0 len0 cap0, .int .i64 a1, .int .i64 a2] w fun e w' => e = .returned (.bool true) ∧ Below w.heap.size w w' := by
  have hlen := h0.len
  by_cases g1 : len0 ≤ 1048576
  · by_cases g2 : len0 ≤ 131072
    · by_cases g3 : 0 ≤ a1
      · obtain ⟨frm, rfl⟩ := Int.eq_ofNat_of_zero_le g3
        have hmk := fun (wx : World) => run_make_row' (P := Trym.prog) 27 3 (.int .i64 0) 8 Trym.underlying27 info3 rfl .i64 .i64 (len0 + 1) (by omega) (by omega) wx
        rw [show ((len0 + 1 : Nat) : Int) = (len0 : Int) + 1 from by omega] at hmk
        have HMK := hide hmk
        have d1 : decide (131072 < (len0 : Int)) = false := by simp; omega
        have d2 : decide ((frm : Int) < 0) = false := by simp
        clear hmk
        go_enter Trym.func3, Trym.ntmps3
        go_wp2_with fail
        refine (bytes1_any _ a0 len0 cap0 hlen _ _).mono ?_
        rintro e w' ⟨rfl, rfl⟩
        rw [show decide (len0 ≤ 1048576) = true from by simp [g1]]
        go_wp2_with fail
        refine (cloneI_any _ a0 len0 cap0 z0 h0 g1).mono ?_
        rintro e w1 ⟨ao1, cap1, rfl, hrow, hb1⟩
        clear h0
        generalize (fun i => z0.getD i 0) = fs at *
        go_wp2_with fail
        refine (build_any _ _ len0 fs hrow (by omega)).mono ?_
        rintro e w2 ⟨rfl, hix, hb2⟩
        have hrow2 := hrow.keep hb2
        have hb3 : Below w'.heap.size w' w2 := hb1.trans (hb2.mono hb1.size)
        clear hb2 hb1 hrow
        generalize w1.heap.size = xb at *
        have hmk := HMK.out
        have hget : (madeCells #[Value.int .i64 0] (len0 + 1))[len0]? = some (.int .i64 0) := by simp [madeCells, Nat.mod_one]
        go_upto_block 0 with fail
        have hrn := row_made w2 len0
        have hfl : Filled fs len0 a2 len0 (fun j => if j = len0 then len0 else 0) := fun j j1 j2 => by
          have : j = len0 := by omega
          subst this
          simpa using isFirst_end fs j j a2 (Nat.le_refl _)
        have hixn := hix.kept (World.grownBy_alloc w2 (.cells ((madeCells #[Value.int .i64 0] (len0 + 1)).setIfInBounds len0 (.int .i64 len0)) 3) none)
        have hxb := hix.lt
        have hrow3 := hrow2.keep (((Below.refl xb w2).alloc (by omega) (.cells ((madeCells #[Value.int .i64 0] (len0 + 1)).setIfInBounds len0 (.int .i64 len0)) 3)))
        have hb4 := hb3.alloc (o := .cells ((madeCells #[Value.int .i64 0] (len0 + 1)).setIfInBounds len0 (.int .i64 len0)) 3) hb3.size
        generalize w2.alloc (.cells ((madeCells #[Value.int .i64 0] (len0 + 1)).setIfInBounds len0 (.int .i64 len0)) 3) = W at *
        generalize (fun j => if j = len0 then len0 else 0) = N0 at *
        have hnb := hb3.size
        generalize w2.heap.size = nb at *
        clear hmk hget hix hrow2 hb3
        go_wp2_with fail
        go_loopw [10] (fun i wr => ∃ (t : Int) (N : Nat → Nat), i = .int .i64 t ∧ -1 ≤ t ∧ t < len0 ∧ wr.rowIs nb 3 (len0 + 1) (fun j => .int .i64 (N j : Nat)) ∧ Filled fs len0 a2 (t + 1).toNat N ∧ HasIx wr xb fs len0 ∧ Row .i64 wr xb (.slice ao1 len0 cap1) len0 fs ∧ Below w'.heap.size w' wr) (fun i _ => (intOf i + 1).toNat)
        case atStart => exact ⟨_, N0, rfl, by omega, by omega, hrn, by rw [show ((len0 : Int) - 1 + 1).toNat = len0 from by omega]; exact hfl, hixn, hrow3, hb4⟩
        case round =>
          obtain ⟨t, N, rfl, ht1, ht2, hr, hfi, hx, hro, hbe⟩ := hrel
          clear hrn hfl hixn hrow3 hb4
          by_cases ht : 0 ≤ t
          · obtain ⟨i, rfl⟩ := Int.eq_ofNat_of_zero_le ht
            rw [show ((i : Int) + 1).toNat = i + 1 from by omega] at hfi
            have hro' := hro
            obtain ⟨ao', cap', ev, hc⟩ := hro
            simp only [Value.slice.injEq] at ev
            obtain ⟨rfl, _, rfl⟩ := ev
            obtain ⟨bb, rfl, hbb, hc⟩ := hc (by omega)
            have hci := hc i (by omega)
            have hd := hr.cell (i := i) (by omega)
            have hz := hr.frozen i
            have hbs : ∀ v, Below xb wr (wr.setCell ⟨nb, i, none⟩ v) := fun v => (Below.refl _ _).setCell (by simp; omega) _
            by_cases hv : fs i < a2
            · have R1 := row_step hr i (.int .i64 i) rfl (i := i)
              have R2 := filled_step hfi (isFirst_hit (by omega) hv)
              have R3 := hx.setOther hr (.int .i64 i) (i := i)
              have R4 := hro'.keep (hbs (.int .i64 i))
              have R5 := hbe.setCell (p := ⟨nb, i, none⟩) hnb (.int .i64 i)
              clear hc hr hfi hx hro' hbs hbe
              go_wp2_with fail
              go_roundw
              case rel => exact ⟨_, _, rfl, by omega, by omega, R1, by rw [show ((i : Int) - 1 + 1).toNat = i from by omega]; exact R2, R3, R4, R5⟩
              case measure => simp [intOf]
            · have hd2 := hr.cell (i := i + 1) (by omega)
              have R1 := row_step hr (N (i + 1)) (.int .i64 (N (i + 1))) rfl (i := i)
              have R2 := filled_step hfi (isFirst_skip (by omega) (hfi (i + 1) (Nat.le_refl _) (by omega)))
              have R3 := hx.setOther hr (.int .i64 (N (i + 1))) (i := i)
              have R4 := hro'.keep (hbs (.int .i64 (N (i + 1))))
              have R5 := hbe.setCell (p := ⟨nb, i, none⟩) hnb (.int .i64 (N (i + 1)))
              clear hc hr hfi hx hro' hbs hbe
              go_wp2_with fail
              go_roundw
              case rel => exact ⟨_, _, rfl, by omega, by omega, R1, by rw [show ((i : Int) - 1 + 1).toNat = i from by omega]; exact R2, R3, R4, R5⟩
              case measure => simp [intOf]
          · rw [show (t + 1).toNat = 0 from by omega] at hfi
            clear hro
            go_wp2_with fail
            go_loopw [11] (fun i wq => ∃ k : Nat, k ≤ len0 + 1 ∧ i = .int .i64 k ∧ wq.rowIs nb 3 (len0 + 1) (fun j => .int .i64 (N j : Nat)) ∧ HasIx wq xb fs len0 ∧ Below w'.heap.size w' wq) (fun i _ => len0 + 1 - (intOf i).toNat)
            case atStart => exact ⟨0, Nat.zero_le _, rfl, hr, hx, hbe⟩
            case round =>
              clear hr hx hbe
              obtain ⟨k, hk, rfl, hr, hx, hbe⟩ := hrel
              by_cases hkl : k ≤ len0
              · have hfk := hfi k (Nat.zero_le _) hkl
                have hck := hr.cell (i := k) (by omega)
                have i1 : (0 : Int) ≤ (k : Int) := by omega
                have i2 : (k : Int) < (len0 : Int) + 1 := by omega
                have i3 : (k : Int) < ((len0 + 1 : Nat) : Int) := by omega
                have HR := hide (And.intro hr (And.intro hx hbe))
                clear hr hbe
                go_wp2_with fail
                go_quiet ((go_at_call 9; exact Calls.quiet_of_same (zzfirst_at _ xb len0 fs (hx.kept (grown_drewN (World.grownBy.refl _ none) _)) k (by omega) _ _ rfl (N k) hfk)))
                go_wp2_with fail
                go_roundw
                case rel => exact ⟨k + 1, by omega, by go_num, HR.out.1, hx.kept (grown_drewN (World.grownBy.refl _ none) _), below_drewN HR.out.2.2 _⟩
                case measure => simp [intOf]; omega
              · by_cases hfl : frm ≤ len0
                · have hck := hr.cell (i := frm) (by omega)
                  have hff := hfi frm (Nat.zero_le _) hfl
                  go_wp2_with fail
                  refine (zzfirst_at _ xb len0 fs hx frm (by omega) _ _ rfl (N frm) hff).mono ?_
                  rintro e wz ⟨rfl, rfl⟩
                  go_wp2_with fail
                  go_ret
                  exact ⟨by simp, hbe⟩
                · have hff := isFirst_end fs len0 frm a2 (by omega)
                  go_wp2_with fail
                  refine (zzfirst_at _ xb len0 fs hx frm (by omega) _ _ rfl len0 hff).mono ?_
                  rintro e wz ⟨rfl, rfl⟩
                  go_wp2_with fail
                  go_ret
                  exact ⟨by simp, hbe⟩
      · go_enter Trym.func3, Trym.ntmps3
        go_wp2_with fail
        refine (bytes1_any _ a0 len0 cap0 hlen _ _).mono ?_
        rintro e w' ⟨rfl, rfl⟩
        rw [show decide (len0 ≤ 1048576) = true from by simp [g1]]
        go_wp2_with fail
        go_ret
        exact ⟨rfl, Below.refl _ _⟩
    · go_enter Trym.func3, Trym.ntmps3
      go_wp2_with fail
      refine (bytes1_any _ a0 len0 cap0 hlen _ _).mono ?_
      rintro e w' ⟨rfl, rfl⟩
      rw [show decide (len0 ≤ 1048576) = true from by simp [g1]]
      go_wp2_with fail
      go_ret
      exact ⟨rfl, Below.refl _ _⟩
  · go_enter Trym.func3, Trym.ntmps3
    go_wp2_with fail
    refine (bytes1_any _ a0 len0 cap0 hlen _ _).mono ?_
    rintro e w' ⟨rfl, rfl⟩
    rw [show decide (len0 ≤ 1048576) = false from by simp [g1]]
    go_wp2_with fail
    go_ret
    exact ⟨rfl, Below.refl _ _⟩
end Go.Proofs.Qxb6000507aMods
