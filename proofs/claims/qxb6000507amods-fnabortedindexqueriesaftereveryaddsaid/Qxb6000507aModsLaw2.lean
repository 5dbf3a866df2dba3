import Derived.Test.Qxb6000507aModsLaw1
namespace Go.Proofs.Qxb6000507aMods
open Go.RowKit

theorem lt_of_cell' {w : World} {p : Addr} {v : Value} (h : w.cell? p = some v) : p.block < w.heap.size := by
  rcases Nat.lt_or_ge p.block w.heap.size with h' | h'
  · exact h'
  · simp [World.cell?, Array.getElem?_eq_none h'] at h

theorem Came.keep {k : IntKind} {w w' : World} {a : Option Addr} {len cap : Nat} {zs : List Int} (h : Came k w a len cap zs) (hb : Below w.heap.size w w') : Came k w' a len cap zs := by
  rcases h with h | ⟨x, h1, h2, h3, h4, h5, h6⟩
  · exact .inl h
  · exact .inr ⟨x, h1, h2, h3, h4, fun i hi => (hb.cell (lt_of_cell' (h5 i hi))).trans (h5 i hi), h6⟩

theorem Came.u16 {w : World} {a : Option Addr} {len cap : Nat} {zs : List Int} (h : Came .u16 w a len cap zs) (i : Nat) : 0 ≤ zs.getD i 0 ∧ zs.getD i 0 ≤ 65535 := by
  rw [List.getD_eq_getElem?_getD]
  cases hz : zs[i]? with
  | none => simp
  | some z =>
    simp only [Option.getD_some]
    rcases h with ⟨_, _, _, rfl⟩ | ⟨x, _, _, _, _, _, h6⟩
    · simp at hz
    · exact Go.bounds_u16 (h6 z (List.mem_of_getElem? hz))

set_option maxRecDepth 100000 in
set_option maxHeartbeats 4000000 in
theorem law2 (a0 : Option Addr) (len0 cap0 : Nat) (z0 : List Int) (a1 : Option Addr) (len1 cap1 : Nat) (z1 : List Int) (a2 : Option Addr) (len2 cap2 : Nat) (z2 : List Int) (w : World)
    (h0 : Came .i64 w a0 len0 cap0 z0) (h1 : Came .u16 w a1 len1 cap1 z1) (h2 : Came .i64 w a2 len2 cap2 z2) :
    Calls Trym.prog 4 #[.slice a0 len0 cap0, .slice a1 len1 cap1, .slice a2 len2 cap2] w fun e w' => e = .returned (.bool true) ∧ Below w.heap.size w w' := by
  have hl0 := h0.len
  have hl1 := h1.len
  have hl2 := h2.len
  by_cases g1 : len0 + len1 + len2 ≤ 1048576
  · by_cases g2 : len0 ≤ 8192 ∧ len1 ≤ 4096 ∧ len2 ≤ 4096
    · obtain ⟨g2, g3, g4⟩ := g2
      have hu := h1.u16
      have d1 : decide (8192 < (len0 : Int)) = false := by simp; omega
      have d2 : decide (4096 < (len1 : Int)) = false := by simp; omega
      have d3 : decide (4096 < (len2 : Int)) = false := by simp; omega
      go_enter Trym.func4, Trym.ntmps4
      go_wp2_with fail
      refine (bytes2_any _ a0 a1 a2 len0 len1 len2 cap0 cap1 cap2 hl0 hl1 hl2).mono ?_
      rintro e w' ⟨rfl, rfl⟩
      rw [show decide (len0 + len1 + len2 ≤ 1048576) = true from by simp [g1]]
      go_wp2_with fail
      refine (cloneI_any _ a0 len0 cap0 z0 h0 (by omega)).mono ?_
      rintro e w1 ⟨ao0, ca0, rfl, r0, b1⟩
      have h1' := h1.keep b1
      have h2' := h2.keep b1
      clear h0 h1 h2
      go_wp2_with fail
      refine (cloneU_any _ a1 len1 cap1 z1 h1' (by omega)).mono ?_
      rintro e w2 ⟨ao1, ca1, rfl, r1, b2⟩
      have h2'' := h2'.keep b2
      have r0' := r0.keep b2
      have b12 := b1.trans (b2.mono b1.size)
      have hs12 := b2.size
      clear h1' h2' r0 b1 b2
      go_wp2_with fail
      refine (cloneI_any _ a2 len2 cap2 z2 h2'' (by omega)).mono ?_
      rintro e w3 ⟨ao2, ca2, rfl, r2, b3⟩
      have r1' := (r1.keep b3).up b3.size
      have r0'' := (r0'.keep (b3.mono hs12)).up (Nat.le_trans hs12 b3.size)
      have b123 := b12.trans (b3.mono b12.size)
      clear h2'' r0' r1 b12 b3 hs12
      generalize (fun i => z0.getD i 0) = fs at *
      have hu' : ∀ i, 0 ≤ (fun i => z1.getD i 0) i ∧ (fun i => z1.getD i 0) i ≤ 65535 := hu
      clear hu
      generalize (fun i => z1.getD i 0) = gs at *
      have hu := hu'
      clear hu'
      generalize (fun i => z2.getD i 0) = hs at *
      have hx0 := HasIx.empty w3 fs
      have bx0 : Below w3.heap.size w3 (w3.alloc (.cells #[.slice none 0 0, .slice none 0 0] 35)) := (Below.refl _ _).alloc (Nat.le_refl _) _
      have hxs := b123.size
      go_upto_block 0 with fail
      generalize w3.alloc (.cells #[.slice none 0 0, .slice none 0 0] 35) = W at *
      generalize w3.heap.size = xb at *
      go_wp2_with fail
      go_loopg [9] len0 (fun g kk wr => ∃ k : Nat, k ≤ len0 ∧ g = len0 - k ∧ kk = .int .i64 k ∧ HasIx wr xb fs k ∧ Below xb w3 wr)
      case atStart => exact ⟨0, Nat.zero_le _, by omega, rfl, hx0, bx0⟩
      case round =>
        obtain ⟨k, hk, rfl, rfl, hix, hb⟩ := hrel
        clear hx0 bx0
        by_cases hlt : k < len0
        · have r0 := r0''.keep hb
          have r0k := r0
          obtain ⟨ao', cap', ev, hc⟩ := r0
          simp only [Value.slice.injEq] at ev
          obtain ⟨rfl, _, rfl⟩ := ev
          obtain ⟨bb, rfl, hbb, hc⟩ := hc (by omega)
          have hck := hc k hlt
          clear hc
          have hixd := hix.kept (grown_drew (World.grownBy.refl wr none))
          have HB := hide hb
          clear hb
          go_upto_region 17 with fail
          go_cut [] (fun wc => HasIx wc xb fs (k + 1) ∧ Below xb w3 wc)
          case first =>
            go_region_with (go_at_call 12; refine (zzadd_any _ xb k fs hixd (by omega) _ _ _ rfl).mono ?_; rintro e w' ⟨rfl, hb', hix'⟩; have R := And.intro hix' (HB.out.drew.trans hb'); clear hb' hix')
            all_goals (clear hixd hck hix; go_wp2_with fail)
            all_goals go_meet
            all_goals exact R
          case rest =>
            obtain ⟨hix2, hb2⟩ := hcut
            clear hix hixd hck HB r0k
            by_cases z1 : len1 = 0
            · have t1 : ((len1 : Int) == 0) = true := beq_iff_eq.2 (by omega)
              have HZ := hide z1
              clear z1
              go_wp2_with fail
              go_roundg (len0 - (k + 1))
              all_goals first | exact ⟨k + 1, by omega, rfl, by go_num, hix2, hb2⟩ | omega
            · have t1 : ((len1 : Int) == 0) = false := beq_eq_false_iff_ne.2 (by omega)
              by_cases z2 : len2 = 0
              · have t2 : ((len2 : Int) == 0) = true := beq_iff_eq.2 (by omega)
                have HZ := hide z2
                clear z2
                go_wp2_with fail
                go_roundg (len0 - (k + 1))
                all_goals first | exact ⟨k + 1, by omega, rfl, by go_num, hix2, hb2⟩ | omega
              · have t2 : ((len2 : Int) == 0) = false := beq_eq_false_iff_ne.2 (by omega)
                have r0 := r0''.keep hb2
                obtain ⟨ao', cap', ev, hc⟩ := r1'.keep hb2
                simp only [Value.slice.injEq] at ev
                obtain ⟨rfl, _, rfl⟩ := ev
                obtain ⟨b1, rfl, hb1, hc⟩ := hc (Nat.pos_of_ne_zero z1)
                have m1 : k % len1 < len1 := Nat.mod_lt _ (Nat.pos_of_ne_zero z1)
                have hc1 := hc (k % len1) m1
                clear hc
                obtain ⟨ao', cap', ev, hc⟩ := r2.keep hb2
                simp only [Value.slice.injEq] at ev
                obtain ⟨rfl, _, rfl⟩ := ev
                obtain ⟨b2, rfl, hb2', hc⟩ := hc (Nat.pos_of_ne_zero z2)
                have m2 : k % len2 < len2 := Nat.mod_lt _ (Nat.pos_of_ne_zero z2)
                have hc2 := hc (k % len2) m2
                clear hc
                have hub := hu (k % len1)
                obtain ⟨frm, hfrm⟩ := Int.eq_ofNat_of_zero_le hub.1
                have hfb : frm ≤ 65535 := by omega
                rw [hfrm] at hc1
                generalize hs (k % len2) = bel at *
                clear hub hfrm
                have m1i : ((k : Int) % (len1 : Int)) < (len1 : Int) := by omega
                have m2i : ((k : Int) % (len2 : Int)) < (len2 : Int) := by omega
                have HU := hide hu
                clear hu
                go_wp2_with fail
                refine (zzfirst_any _ xb (k + 1) fs hix2 frm (by omega) _ _ rfl).mono ?_
                rintro e wy ⟨⟨ra, rfl, ha⟩, rfl⟩
                have HA := hide ha
                clear ha
                go_wp2_with fail
                refine (scan_any _ _ len0 (k + 1) xb fs r0 (by omega) (by omega) frm (by omega) _ _ _ (by omega) rfl).mono ?_
                rintro e wz ⟨⟨rb, rfl, hb⟩, rfl⟩
                obtain rfl : rb = ra := hb.unique HA.out
                clear hb HA r0
                go_wp2_with fail
                go_roundg (len0 - (k + 1))
                all_goals first | exact ⟨k + 1, by omega, rfl, by go_num, hix2, hb2⟩ | omega
        · go_wp2_with fail
          go_ret
          exact ⟨rfl, b123.trans (hb.mono hxs)⟩
    · go_enter Trym.func4, Trym.ntmps4
      go_wp2_with fail
      refine (bytes2_any _ a0 a1 a2 len0 len1 len2 cap0 cap1 cap2 hl0 hl1 hl2).mono ?_
      rintro e w' ⟨rfl, rfl⟩
      rw [show decide (len0 + len1 + len2 ≤ 1048576) = true from by simp [g1]]
      by_cases e0 : len0 ≤ 8192
      · by_cases e1 : len1 ≤ 4096
        · have e2 : ¬ len2 ≤ 4096 := fun e2 => g2 ⟨e0, e1, e2⟩
          clear g2
          go_wp2_with fail
          go_ret
          exact ⟨rfl, Below.refl _ _⟩
        · clear g2
          go_wp2_with fail
          go_ret
          exact ⟨rfl, Below.refl _ _⟩
      · clear g2
        go_wp2_with fail
        go_ret
        exact ⟨rfl, Below.refl _ _⟩
  · go_enter Trym.func4, Trym.ntmps4
    go_wp2_with fail
    refine (bytes2_any _ a0 a1 a2 len0 len1 len2 cap0 cap1 cap2 hl0 hl1 hl2).mono ?_
    rintro e w' ⟨rfl, rfl⟩
    rw [show decide (len0 + len1 + len2 ≤ 1048576) = false from by simp [g1]]
    go_wp2_with fail
    go_ret
    exact ⟨rfl, Below.refl _ _⟩
end Go.Proofs.Qxb6000507aMods
