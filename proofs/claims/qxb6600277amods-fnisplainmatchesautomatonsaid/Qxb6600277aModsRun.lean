import Derived.Test.Qxb6600277aModsRows
import Derived.Test.Qxb6600277aModsPlain
import Derived.WalkKit
import Derived.WalkSpells
import Derived.WalkLawsBesides
import Derived.Deep.CutBlock
import Derived.Deep.DeepCutAuto
namespace Go.Proofs.Qxb6600277aMods
open Go.RowKit

theorem hide {p : Prop} (h : p) : Hid p := h

/-- The byte at place j. -/
def at_ (s : ByteArray) (j : Nat) : UInt8 := s.data.toList.getD j 0

theorem at_eq (s : ByteArray) (k : Nat) (h : k < s.size) : s[k] = at_ s k := by
  unfold at_
  rw [List.getD_eq_getElem?_getD, List.getElem?_eq_getElem (by simpa using h)]
  rfl

theorem len_list (s : ByteArray) : s.data.toList.length = s.size := by simp

theorem isD_iff (c : UInt8) : isD c = true ↔ 48 ≤ (c.toNat : Int) ∧ (c.toNat : Int) ≤ 57 := by
  simp [isD]; omega
theorem isD_not (c : UInt8) : isD c = false ↔ (c.toNat : Int) < 48 ∨ 57 < (c.toNat : Int) := by
  rw [← Bool.not_eq_true, isD_iff]; omega

set_option maxHeartbeats 400000 in
theorem digit_any (x : Int) (w : World) (c : UInt8) (hx : x = (c.toNat : Int)) :
    Calls Trym.prog 15 #[.int .u8 x] w fun e w' => e = .returned (.bool (isD c)) ∧ w' = w := by
  by_cases h : isD c = true
  · rw [h]
    obtain ⟨h1, h2⟩ := (isD_iff c).1 h
    rw [← hx] at h1 h2
    clear hx h
    go_enter Trym.func15, Trym.ntmps15
    go_wp2
    go_ret
    exact ⟨rfl, rfl⟩
  · have h' : isD c = false := by simpa using h
    rw [h']
    have h3 := (isD_not c).1 h'
    rw [← hx] at h3
    clear hx h h'
    rcases h3 with h3 | h3
    · go_enter Trym.func15, Trym.ntmps15
      go_wp2
      go_ret
      exact ⟨rfl, rfl⟩
    · go_enter Trym.func15, Trym.ntmps15
      go_wp2
      go_ret
      exact ⟨by simp [show ¬ x ≤ 57 from by omega], rfl⟩

set_option maxHeartbeats 400000 in
theorem run_any (s : ByteArray) (w : World) (hs : s.size ≤ 9223372036854775807) :
    Calls Trym.prog 18 #[.string s] w fun e w' => e = .returned (.int .i64 (run s.data.toList)) ∧ w' = w := by
  go_enter Trym.func18, Trym.ntmps18
  go_wp2_with fail
  go_loop [3] (fun n => ∃ k : Nat, k ≤ s.size ∧ n = .int .i64 k ∧ Hid (∀ j, j < k → isD (at_ s j) = true)) (fun n => s.size - (intOf n).toNat)
  case atStart => exact ⟨0, Nat.zero_le _, rfl, fun j h => by omega⟩
  case round =>
    obtain ⟨k, hk, rfl, hall⟩ := hrel
    by_cases hlt : k < s.size
    · have hx : s[k] = at_ s k := at_eq s k hlt
      by_cases hd : isD (at_ s k) = true
      · obtain ⟨h1, h2⟩ := (isD_iff _).1 hd
        have HD := hide hd
        clear hd
        go_wp2_with fail
        go_round
        case rel =>
          refine ⟨k + 1, by omega, by go_num, fun j hj => ?_⟩
          by_cases e : j = k
          · subst e; exact HD.out
          · exact hall.out j (by omega)
        case measure => simp [intOf]; omega
      · have hd' : isD (at_ s k) = false := by simpa using hd
        have hr : run s.data.toList = k := run_of _ k (by rw [len_list]; omega) (fun j hj => hall.out j hj) (fun _ => hd')
        have HR := hide hr
        have h3 := (isD_not _).1 hd'
        clear hd hd' hr
        rcases h3 with h3 | h3
        · go_wp2_with fail
          go_ret
          exact ⟨by rw [HR.out]; rfl, rfl⟩
        · go_wp2_with fail
          go_ret
          exact ⟨by rw [HR.out]; rfl, rfl⟩
    · have hr : run s.data.toList = k := run_of _ k (by rw [len_list]; omega) (fun j hj => hall.out j hj) (fun h => by rw [len_list] at h; omega)
      have HR := hide hr
      clear hr
      go_wp2_with fail
      go_ret
      exact ⟨by rw [HR.out]; rfl, rfl⟩

set_option maxHeartbeats 400000 in
theorem zzrun_any (s : ByteArray) (w : World) (hs : s.size ≤ 9223372036854775807) :
    Calls Trym.prog 14 #[.string s] w fun e w' => e = .returned (.int .i64 (run s.data.toList)) ∧ w' = w := by
  go_enter Trym.func14, Trym.ntmps14
  go_wp2_with fail
  refine (run_any s _ hs).mono ?_
  rintro e w' ⟨rfl, rfl⟩
  go_wp2_with fail
  go_ret
  exact ⟨rfl, rfl⟩

set_option maxHeartbeats 400000 in
theorem bytes13_any (s : ByteArray) (w : World) (hm : s.size ≤ 9223372036854775807) :
    Calls Trym.prog 13 #[.string s] w fun e w' => e = .returned (.bool (decide (s.size ≤ 1048576))) ∧ w' = w := by
  by_cases h : s.size ≤ 1048576
  · go_enter Trym.func13, Trym.ntmps13
    go_wp2
    go_ret
    exact ⟨by simp [h], rfl⟩
  · go_enter Trym.func13, Trym.ntmps13
    go_wp2
    go_ret
    exact ⟨by simp [h], rfl⟩

set_option maxHeartbeats 400000 in
theorem bytes8_any (s : ByteArray) (w : World) (hm : s.size ≤ 9223372036854775807) :
    Calls Trym.prog 8 #[.string s] w fun e w' => e = .returned (.bool (decide (s.size ≤ 1048576))) ∧ w' = w := by
  by_cases h : s.size ≤ 1048576
  · go_enter Trym.func8, Trym.ntmps8
    go_wp2
    go_ret
    exact ⟨by simp [h], rfl⟩
  · go_enter Trym.func8, Trym.ntmps8
    go_wp2
    go_ret
    exact ⟨by simp [h], rfl⟩

set_option maxHeartbeats 1000000 in
theorem lawRun (s : ByteArray) (w : World) (hs : s.size ≤ 9223372036854775807) :
    Calls Trym.prog 6 #[.string s] w fun e w' => e = .returned (.bool true) ∧ w' = w := by
  by_cases g1 : s.size ≤ 1048576
  · have hle := run_le s.data.toList
    rw [len_list] at hle
    have hdig := run_digit s.data.toList
    have hstop := run_stop s.data.toList
    have HD := hide hdig
    have HS := hide hstop
    clear hdig hstop
    have d1 : decide (1048576 < (s.size : Int)) = false := by simp; omega
    go_enter Trym.func6, Trym.ntmps6
    go_wp2_with fail
    refine (bytes13_any s _ hs).mono ?_
    rintro e w' ⟨rfl, rfl⟩
    rw [show decide (s.size ≤ 1048576) = true from by simp [g1]]
    go_wp2_with fail
    refine (zzrun_any s _ hs).mono ?_
    rintro e w' ⟨rfl, rfl⟩
    generalize run s.data.toList = n at *
    have d2 : decide ((n : Int) < 0) = false := by simp
    have d3 : decide ((s.size : Int) < (n : Int)) = false := by simp; omega
    have d4 : decide (s.size < n) = false := by simp; omega
    go_wp2_with fail
    go_loop [4] (fun i => ∃ k : Nat, k ≤ n ∧ i = .int .i64 k) (fun i => n - (intOf i).toNat)
    case atStart => exact ⟨0, Nat.zero_le _, rfl⟩
    case round =>
      obtain ⟨k, hk, rfl⟩ := hrel
      by_cases hlt : k < n
      · have hx : s[k]'(by omega) = at_ s k := at_eq s k (by omega)
        have hd : isD (at_ s k) = true := HD.out k hlt
        go_wp2_with (go_at_call 15; refine (digit_any _ _ (at_ s k) rfl).mono ?_; rintro e w' ⟨rfl, rfl⟩)
        go_round
        case rel => exact ⟨k + 1, by omega, by go_num⟩
        case measure => simp [intOf]; omega
      · by_cases hns : n < s.size
        · have hx : s[n] = at_ s n := at_eq s n hns
          have hd : isD (at_ s n) = false := HS.out (by rw [len_list]; exact hns)
          go_wp2_with (go_at_call 15; refine (digit_any _ _ (at_ s n) rfl).mono ?_; rintro e w' ⟨rfl, rfl⟩)
          go_ret
          exact ⟨rfl, rfl⟩
        · go_wp2_with fail
          go_ret
          exact ⟨rfl, rfl⟩
  · go_enter Trym.func6, Trym.ntmps6
    go_wp2_with fail
    refine (bytes13_any s _ hs).mono ?_
    rintro e w' ⟨rfl, rfl⟩
    rw [show decide (s.size ≤ 1048576) = false from by simp [g1]]
    go_wp2_with fail
    go_ret
    exact ⟨rfl, rfl⟩
end Go.Proofs.Qxb6600277aMods
