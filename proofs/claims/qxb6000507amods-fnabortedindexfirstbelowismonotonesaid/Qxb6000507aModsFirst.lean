import Derived.Test.Qxb6000507aModsHeap
import Derived.Test.Qxb6000507aModsPlain
import Derived.Deep.CutBlock
import Derived.Deep.DeepCutAuto
namespace Go.Proofs.Qxb6000507aMods
open Go.RowKit

section
variable {xb m : Nat} {S : Nat → Nat} {V : Nat → Nat → Int} {lv tv : Value} {xs : List Value} {G C : Nat → Nat} {fs : Nat → Int} {n : Nat}

theorem Ix.sle {w : World} (h : Ix w xb m S V lv tv xs G C) (l : Nat) (hl : l ≤ m) : S l ≤ 9223372036854775807 := by
  match l, hl with
  | 0, _ => exact h.s0
  | l + 1, hl => exact h.sl l hl

set_option maxHeartbeats 1000000 in
theorem first_any (w : World) (h : Ix w xb m S V lv tv xs G C) (g : Good fs n m S V) (frm : Nat) (hfrm : frm ≤ 9223372036854775807) (b : Int) :
    Calls Trym.prog 16 #[.pointer (some ⟨xb, 0, none⟩), .int .i64 frm, .int .i64 b] w fun e w' => (∃ r : Nat, e = .returned (.int .i64 r) ∧ IsFirst fs n frm b r) ∧ w' = w := by
  obtain ⟨ao, cap, rfl, _, _⟩ := owns_form h.hl
  have x0 := h.x0
  have x1 := h.x1
  have s0 := h.s0
  have m0 := h.m0
  go_enter Trym.func16, Trym.ntmps16
  go_upto_block 0 with fail
  go_cut [7, 8] (fun lev at_ wc => ∃ l a : Nat, wc = w ∧ l ≤ m ∧ lev = .int .i64 l ∧ at_ = .int .i64 a ∧ Down fs n frm b S V l a)
  case first => 
    go_wp2_with fail
    go_loop [7, 8] (fun lev at_ => ∃ l a : Nat, l ≤ m ∧ a ≤ 9223372036854775807 ∧ lev = .int .i64 l ∧ at_ = .int .i64 a ∧ Up fs n frm b l a) (fun lev _ => m - (intOf lev).toNat)
    case atStart => exact ⟨0, frm, by omega, hfrm, rfl, rfl, up_start⟩
    case round =>
      obtain ⟨l, a, hl, ha, rfl, rfl, hu⟩ := hrel
      have sl := h.sle l hl
      go_upto_if 17 with fail
      go_cut [9] (fun sz wc => wc = w ∧ sz = .int .i64 (S l))
      case first =>
        by_cases h0 : l = 0
        · subst h0
          go_wp2
          go_meet
          case rel => exact ⟨rfl, rfl⟩
        · obtain ⟨k, rfl⟩ : ∃ k, l = k + 1 := ⟨l - 1, by omega⟩
          obtain ⟨gt, ct, e, hc⟩ := h.t k (by omega)
          subst e
          go_wp2
          go_meet
          case rel => exact ⟨rfl, rfl⟩
      case rest =>
        obtain ⟨rfl, rfl⟩ := hcut
        go_upto_block 2 with fail
        go_cut [8] (fun at_ w2 => ∃ c : Nat, w2 = wc ∧ c ≤ 9223372036854775807 ∧ at_ = .int .i64 c ∧ Up fs n frm b l c ∧ (S l ≤ c ∨ (c < S l ∧ V l c < b) ∨ (c % 16 = 0 ∧ 16 ≤ c)))
        case first =>
          go_wp2_with fail
          go_loop [8] (fun at_ => ∃ c : Nat, c ≤ 9223372036854775807 ∧ at_ = .int .i64 c ∧ Up fs n frm b l c) (fun at_ => S l - (intOf at_).toNat)
          case atStart => exact ⟨a, ha, rfl, hu⟩
          case round =>
            obtain ⟨c, hc, rfl, hu'⟩ := hrel
            by_cases hlt : c < S l
            · by_cases hv : b ≤ V l c
              · go_wp2_with (go_at_call 18; refine (value_any _ h l c _ _ rfl rfl hl hlt).mono ?_; rintro e w' ⟨rfl, rfl⟩)
                · have h16 : ((c : Int) + 1) % 16 = 0 := beq_iff_eq.1 (by assumption)
                  go_meet
                  case rel => exact ⟨c + 1, rfl, by omega, by go_num, up_step g hl hu' hlt hv, .inr (.inr ⟨by omega, by omega⟩)⟩
                · go_round
                  case rel => exact ⟨c + 1, by omega, by go_num, up_step g hl hu' hlt hv⟩
                  case measure => simp [intOf]; omega
              · go_wp2_with (go_at_call 18; refine (value_any _ h l c _ _ rfl rfl hl hlt).mono ?_; rintro e w' ⟨rfl, rfl⟩)
                go_meet
                case rel => exact ⟨c, rfl, by omega, rfl, hu', .inr (.inl ⟨hlt, by omega⟩)⟩
            · go_wp2_with fail
              go_meet
              case rel => exact ⟨c, rfl, by omega, rfl, hu', .inl (by omega)⟩
        case rest =>
          obtain ⟨c, rfl, hc, rfl, hu', hw⟩ := hcut
          by_cases hlt : c < S l
          · by_cases hv : V l c < b
            · clear hw
              go_wp2_with (go_at_call 18; refine (value_any _ h l c _ _ rfl rfl hl hlt).mono ?_; rintro e w' ⟨rfl, rfl⟩)
              go_meet
              case rel => exact ⟨l, c, rfl, hl, rfl, rfl, hu', hlt, hv⟩
            · have h16 : c % 16 = 0 ∧ 16 ≤ c := by
                rcases hw with h | h | h
                · omega
                · exact absurd h.2 hv
                · exact h
              clear hw
              have hlm := up_m g hl hlt h16.2
              go_wp2_with (go_at_call 18; refine (value_any _ h l c _ _ rfl rfl hl hlt).mono ?_; rintro e w' ⟨rfl, rfl⟩)
              go_round
              case rel => exact ⟨l + 1, c / 16, by omega, by omega, by go_num, by go_num, up_up hu' h16.1⟩
              case measure => simp [intOf]; omega
          · clear hw
            go_wp2_with fail
            go_ret
            exact ⟨⟨S 0, rfl, by rw [g.s0]; exact up_ret g hl hu' (by omega)⟩, rfl⟩
  case rest =>
    obtain ⟨l, a, rfl, hl, rfl, rfl, hd⟩ := hcut
    go_wp2_with fail
    go_loop [7, 8] (fun lev at_ => ∃ l a : Nat, l ≤ m ∧ lev = .int .i64 l ∧ at_ = .int .i64 a ∧ Down fs n frm b S V l a) (fun lev _ => (intOf lev).toNat)
    case atStart => exact ⟨l, a, hl, rfl, rfl, hd⟩
    case round =>
      obtain ⟨l, a, hl, rfl, rfl, hd⟩ := hrel
      by_cases h0 : l = 0
      · subst h0
        go_wp2_with fail
        go_ret
        exact ⟨⟨a, rfl, down_end g hd⟩, rfl⟩
      · obtain ⟨k, rfl⟩ : ∃ k, l = k + 1 := ⟨l - 1, by omega⟩
        have sk := h.sle k (by omega)
        have d0 := dn_start g hl hd
        have b0 := dn_in g (by omega) d0
        go_wp2_with fail
        go_loop [8] (fun at_ => ∃ c : Nat, at_ = .int .i64 c ∧ Dn fs n frm b k a c) (fun at_ => (a + 1) * 16 - (intOf at_).toNat)
        case atStart => exact ⟨a * 16, by go_num, d0⟩
        case round =>
          obtain ⟨c, rfl, hdn⟩ := hrel
          have hin := dn_in g (by omega) hdn
          by_cases hv : b ≤ V k c
          · go_wp2_with (go_at_call 18; refine (value_any _ h k c _ _ (by omega) rfl (by omega) hin).mono ?_; rintro e w' ⟨rfl, rfl⟩)
            have hs := dn_step g (by omega) hdn hv
            have := hdn.2.1
            go_round
            case rel => exact ⟨c + 1, by go_num, hs⟩
            case measure => simp [intOf]; omega
          · go_wp2_with (go_at_call 18; refine (value_any _ h k c _ _ (by omega) rfl (by omega) hin).mono ?_; rintro e w' ⟨rfl, rfl⟩)
            go_round
            case rel => exact ⟨k, c, by omega, by go_num, rfl, dn_done g (by omega) hdn (by omega)⟩
            case measure => simp [intOf]
end
end Go.Proofs.Qxb6000507aMods
