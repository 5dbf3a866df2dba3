import Derived.Test.Qxb6000507aModsLaw1
namespace Go.Proofs.Qxb6000507aMods
open Go.RowKit

theorem IsFirst.le {fs : Nat → Int} {n frm r : Nat} {b : Int} (h : IsFirst fs n frm b r) : r ≤ n := by
  rcases h with ⟨h, _⟩ | ⟨_, h, _⟩ <;> omega

theorem IsFirst.least {fs : Nat → Int} {n frm r j : Nat} {b : Int} (h : IsFirst fs n frm b r) (h1 : frm ≤ j) (h2 : j < n) (h3 : fs j < b) : r ≤ j := by
  rcases h with ⟨_, h⟩ | ⟨_, _, _, h⟩
  · have := h j h1 h2; omega
  · rcases Nat.lt_or_ge j r with hj | hj
    · have := h j h1 hj; omega
    · exact hj

theorem mono_ba {fs : Nat → Int} {n f1 a b : Nat} {b1 b2 : Int} (hb : b1 ≤ b2) (ha : IsFirst fs n f1 b1 a) (hb' : IsFirst fs n f1 b2 b) : b ≤ a := by
  rcases ha with ⟨rfl, _⟩ | ⟨h1, h2, h3, _⟩
  · exact hb'.le
  · exact hb'.least h1 h2 (by omega)

theorem mono_ac {fs : Nat → Int} {n f1 f2 a c : Nat} {b1 : Int} (hf : f1 ≤ f2) (ha : IsFirst fs n f1 b1 a) (hc : IsFirst fs n f2 b1 c) : a ≤ c := by
  rcases hc with ⟨rfl, _⟩ | ⟨h1, h2, h3, _⟩
  · exact ha.le
  · exact ha.least (by omega) h2 h3

set_option maxRecDepth 100000 in
set_option maxHeartbeats 2000000 in
theorem law3 (a0 : Option Addr) (len0 cap0 : Nat) (z0 : List Int) (a1 a2 a3 a4 : Int) (w : World) (h0 : Came .i64 w a0 len0 cap0 z0) (h1 : a1 ≤ 9223372036854775807) (h2 : a2 ≤ 9223372036854775807) :
    Calls Trym.prog 5 #[.slice a0 len0 cap0, .int .i64 a1, .int .i64 a2, .int .i64 a3, .int .i64 a4] w fun e w' => e = .returned (.bool true) ∧ Below w.heap.size w w' := by
  have hlen := h0.len
  by_cases g1 : len0 ≤ 1048576
  · by_cases g2 : len0 ≤ 131072
    · by_cases g3 : 0 ≤ a1
      · by_cases g4 : 0 ≤ a2
        · obtain ⟨f1, rfl⟩ := Int.eq_ofNat_of_zero_le g3
          obtain ⟨f2, rfl⟩ := Int.eq_ofNat_of_zero_le g4
          go_enter Trym.func5, Trym.ntmps5
          go_wp2_with fail
          refine (bytes3_any _ a0 len0 cap0 hlen _ _ _ _).mono ?_
          rintro e w' ⟨rfl, rfl⟩
          rw [show decide (len0 ≤ 1048576) = true from by simp [g1]]
          go_wp2_with fail
          refine (cloneI_any _ a0 len0 cap0 z0 h0 g1).mono ?_
          rintro e w1 ⟨ao1, cap1, rfl, hrow, hb1⟩
          clear h0
          generalize (fun i => z0.getD i 0) = fs at *
          go_upto_if 36 with fail
          go_cut [1, 2] (fun s1 s2 wc => ∃ p q : Nat, wc = w1 ∧ s1 = .int .i64 p ∧ s2 = .int .i64 q ∧ p ≤ q ∧ q ≤ 9223372036854775807)
          case first =>
            by_cases hs : f1 ≤ f2
            · go_wp2_with fail
              go_meet
              case rel => exact ⟨f1, f2, rfl, rfl, rfl, hs, by omega⟩
            · go_wp2_with fail
              go_meet
              case rel => exact ⟨f2, f1, rfl, rfl, rfl, by omega, by omega⟩
          case rest =>
            obtain ⟨p, q, rfl, rfl, rfl, hpq, hq⟩ := hcut
            go_upto_if 41 with fail
            go_cut [3, 4] (fun s3 s4 w2 => ∃ b1 b2 : Int, w2 = wc ∧ s3 = .int .i64 b1 ∧ s4 = .int .i64 b2 ∧ b1 ≤ b2)
            case first =>
              by_cases hs : a3 ≤ a4
              · go_wp2_with fail
                go_meet
                case rel => exact ⟨a3, a4, rfl, rfl, rfl, hs⟩
              · go_wp2_with fail
                go_meet
                case rel => exact ⟨a4, a3, rfl, rfl, rfl, by omega⟩
            case rest =>
              obtain ⟨b1, b2, rfl, rfl, rfl, hbb⟩ := hcut
              go_wp2_with fail
              refine (build_any _ _ len0 fs hrow (by omega)).mono ?_
              rintro e w3 ⟨rfl, hix, hb2⟩
              have hrow2 := hrow.keep hb2
              have hb3 := hb1.trans (hb2.mono hb1.size)
              clear hb2 hb1 hrow
              go_wp2_with fail
              refine (zzfirst_any _ _ len0 fs hix p (by omega) _ _ rfl).mono ?_
              rintro e w4 ⟨⟨ra, rfl, ha⟩, rfl⟩
              go_wp2_with fail
              refine (zzfirst_any _ _ len0 fs hix p (by omega) _ _ rfl).mono ?_
              rintro e w5 ⟨⟨rb, rfl, hb⟩, rfl⟩
              go_wp2_with fail
              refine (zzfirst_any _ _ len0 fs hix q (by omega) _ _ rfl).mono ?_
              rintro e w6 ⟨⟨rc, rfl, hc⟩, rfl⟩
              have m1 := mono_ba hbb ha hb
              have m2 := mono_ac hpq ha hc
              go_wp2_with fail
              refine (fits_any _ _ len0 _ fs hrow2 (by omega) p (by omega) ra _ _ _ _ rfl rfl rfl ha).mono ?_
              rintro e w7 ⟨rfl, rfl⟩
              go_wp2_with fail
              refine (fits_any _ _ len0 _ fs hrow2 (by omega) p (by omega) rb _ _ _ _ rfl rfl rfl hb).mono ?_
              rintro e w8 ⟨rfl, rfl⟩
              go_wp2_with fail
              refine (fits_any _ _ len0 _ fs hrow2 (by omega) q (by omega) rc _ _ _ _ rfl rfl rfl hc).mono ?_
              rintro e w9 ⟨rfl, rfl⟩
              go_wp2_with fail
              go_ret
              exact ⟨rfl, hb3⟩
        · go_enter Trym.func5, Trym.ntmps5
          go_wp2_with fail
          refine (bytes3_any _ a0 len0 cap0 hlen _ _ _ _).mono ?_
          rintro e w' ⟨rfl, rfl⟩
          rw [show decide (len0 ≤ 1048576) = true from by simp [g1]]
          go_wp2_with fail
          go_ret
          exact ⟨rfl, Below.refl _ _⟩
      · go_enter Trym.func5, Trym.ntmps5
        go_wp2_with fail
        refine (bytes3_any _ a0 len0 cap0 hlen _ _ _ _).mono ?_
        rintro e w' ⟨rfl, rfl⟩
        rw [show decide (len0 ≤ 1048576) = true from by simp [g1]]
        go_wp2_with fail
        go_ret
        exact ⟨rfl, Below.refl _ _⟩
    · go_enter Trym.func5, Trym.ntmps5
      go_wp2_with fail
      refine (bytes3_any _ a0 len0 cap0 hlen _ _ _ _).mono ?_
      rintro e w' ⟨rfl, rfl⟩
      rw [show decide (len0 ≤ 1048576) = true from by simp [g1]]
      go_wp2_with fail
      go_ret
      exact ⟨rfl, Below.refl _ _⟩
  · go_enter Trym.func5, Trym.ntmps5
    go_wp2_with fail
    refine (bytes3_any _ a0 len0 cap0 hlen _ _ _ _).mono ?_
    rintro e w' ⟨rfl, rfl⟩
    rw [show decide (len0 ≤ 1048576) = false from by simp [g1]]
    go_wp2_with fail
    go_ret
    exact ⟨rfl, Below.refl _ _⟩
end Go.Proofs.Qxb6000507aMods
