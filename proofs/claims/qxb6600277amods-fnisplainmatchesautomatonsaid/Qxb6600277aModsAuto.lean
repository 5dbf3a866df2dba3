import Derived.Test.Qxb6600277aModsRun
import Derived.Lib.Strings
import Derived.Lib.IndexBytes
namespace Go.Proofs.Qxb6600277aMods
open Go.RowKit

section
variable {c : UInt8} {l : List UInt8}
theorem d0a (h : (c == 45) = true) : dfa 0 (c :: l) = dfa 1 l := by simp only [dfa, h, if_true]
theorem d0b (h : (c == 45) = false) (h2 : isD c = true) : dfa 0 (c :: l) = dfa 2 l := by simp only [dfa, h, h2, if_true, Bool.false_eq_true, if_false]
theorem d0c (h : (c == 45) = false) (h2 : isD c = false) : dfa 0 (c :: l) = false := by simp only [dfa, h, h2, Bool.false_eq_true, if_false]
theorem d1a (h2 : isD c = true) : dfa 1 (c :: l) = dfa 2 l := by simp only [dfa, h2, if_true]
theorem d1b (h2 : isD c = false) : dfa 1 (c :: l) = false := by simp only [dfa, h2, Bool.false_eq_true, if_false]
theorem d2a (h : (c == 46) = true) : dfa 2 (c :: l) = dfa 3 l := by simp only [dfa, h, if_true]
theorem d2b (h : (c == 46) = false) (h2 : (!isD c) = true) : dfa 2 (c :: l) = false := by
  have h3 : isD c = false := by simpa using h2
  simp only [dfa, h, h3, Bool.false_eq_true, if_false]
theorem d2c (h : (c == 46) = false) (h2 : (!isD c) = false) : dfa 2 (c :: l) = dfa 2 l := by
  have h3 : isD c = true := by simpa using h2
  simp only [dfa, h, h3, if_true, Bool.false_eq_true, if_false]
theorem d3a (h2 : isD c = true) : dfa 3 (c :: l) = dfa 4 l := by simp only [dfa, h2, if_true]
theorem d3b (h2 : isD c = false) : dfa 3 (c :: l) = false := by simp only [dfa, h2, Bool.false_eq_true, if_false]
theorem d4a (h2 : (!isD c) = true) : dfa 4 (c :: l) = false := by
  have h3 : isD c = false := by simpa using h2
  simp only [dfa, h3, Bool.false_eq_true, if_false]
theorem d4b (h2 : (!isD c) = false) : dfa 4 (c :: l) = dfa 4 l := by
  have h3 : isD c = true := by simpa using h2
  simp only [dfa, h3, if_true]
end

theorem drop_at (s : ByteArray) (k : Nat) (h : k < s.size) : s.data.toList.drop k = at_ s k :: s.data.toList.drop (k + 1) := by
  rw [List.drop_eq_getElem_cons (by simpa using h)]
  congr 1
  unfold at_
  rw [List.getD_eq_getElem?_getD, List.getElem?_eq_getElem (by simpa using h)]; rfl

set_option maxHeartbeats 1000000 in
theorem dfa_any (s : ByteArray) (w : World) (hs : s.size ≤ 9223372036854775807) :
    Calls Trym.prog 10 #[.string s] w fun e w' => e = .returned (.bool (dfa 0 s.data.toList)) ∧ w' = w := by
  go_enter Trym.func10, Trym.ntmps10
  go_wp2_with fail
  go_loop [3, 4] (fun st i => ∃ (k q : Nat), k ≤ s.size ∧ q ≤ 4 ∧ i = .int .i64 k ∧ st = .int .i64 q ∧ Hid (dfa 0 s.data.toList = dfa q (s.data.toList.drop k))) (fun _ i => s.size - (intOf i).toNat)
  case atStart => exact ⟨0, 0, Nat.zero_le _, by omega, rfl, rfl, rfl⟩
  case round =>
    obtain ⟨k, q, hk, hq, rfl, rfl, hh⟩ := hrel
    by_cases hlt : k < s.size
    · have hx : s[k] = at_ s k := at_eq s k hlt
      have hd := drop_at s k hlt
      have h2 := hh.out
      rw [hd] at h2
      have HH := hide h2
      clear hd hh h2
      generalize at_ s k = c at *
      have hc45 : ((c.toNat : Int) == 45) = (c == 45) := by
        rw [Bool.eq_iff_iff, beq_iff_eq, beq_iff_eq, ← UInt8.toNat_inj]; simp; omega
      have hc46 : ((c.toNat : Int) == 46) = (c == 46) := by
        rw [Bool.eq_iff_iff, beq_iff_eq, beq_iff_eq, ← UInt8.toNat_inj]; simp; omega
      match q, hq with
      | 0, _ =>
        go_wp2_with (go_at_call 15; refine (digit_any _ _ c rfl).mono ?_; rintro e w' ⟨rfl, rfl⟩)
        · go_round
          case rel => exact ⟨k + 1, 1, by omega, by omega, by go_num, rfl, HH.out.trans (d0a ‹_›)⟩
          case measure => simp [intOf]; omega
        · go_round
          case rel => exact ⟨k + 1, 2, by omega, by omega, by go_num, rfl, HH.out.trans (d0b ‹_› ‹_›)⟩
          case measure => simp [intOf]; omega
        · go_ret
          exact ⟨by rw [HH.out, d0c ‹_› ‹_›]; rfl, rfl⟩
      | 1, _ =>
        go_wp2_with (go_at_call 15; refine (digit_any _ _ c rfl).mono ?_; rintro e w' ⟨rfl, rfl⟩)
        · go_round
          case rel => exact ⟨k + 1, 2, by omega, by omega, by go_num, rfl, HH.out.trans (d1a ‹_›)⟩
          case measure => simp [intOf]; omega
        · go_ret
          exact ⟨by rw [HH.out, d1b ‹_›]; rfl, rfl⟩
      | 2, _ =>
        go_wp2_with (go_at_call 15; refine (digit_any _ _ c rfl).mono ?_; rintro e w' ⟨rfl, rfl⟩)
        · go_round
          case rel => exact ⟨k + 1, 3, by omega, by omega, by go_num, rfl, HH.out.trans (d2a ‹_›)⟩
          case measure => simp [intOf]; omega
        · go_ret
          exact ⟨by rw [HH.out, d2b ‹_› ‹_›]; rfl, rfl⟩
        · go_round
          case rel => exact ⟨k + 1, 2, by omega, by omega, by go_num, rfl, HH.out.trans (d2c ‹_› ‹_›)⟩
          case measure => simp [intOf]; omega
      | 3, _ =>
        go_wp2_with (go_at_call 15; refine (digit_any _ _ c rfl).mono ?_; rintro e w' ⟨rfl, rfl⟩)
        · go_round
          case rel => exact ⟨k + 1, 4, by omega, by omega, by go_num, rfl, HH.out.trans (d3a ‹_›)⟩
          case measure => simp [intOf]; omega
        · go_ret
          exact ⟨by rw [HH.out, d3b ‹_›]; rfl, rfl⟩
      | 4, _ =>
        go_wp2_with (go_at_call 15; refine (digit_any _ _ c rfl).mono ?_; rintro e w' ⟨rfl, rfl⟩)
        · go_ret
          exact ⟨by rw [HH.out, d4a ‹_›]; rfl, rfl⟩
        · go_round
          case rel => exact ⟨k + 1, 4, by omega, by omega, by go_num, rfl, HH.out.trans (d4b ‹_›)⟩
          case measure => simp [intOf]; omega
      | n + 5, h => exact absurd h (by omega)
    · have he : s.data.toList.drop k = [] := List.drop_eq_nil_of_le (by rw [len_list]; omega)
      have h2 := hh.out
      rw [he] at h2
      have HH := hide h2
      clear h2 hh he
      match q, hq with
      | 0, _ =>
        go_wp2_with fail
        go_ret
        exact ⟨by rw [HH.out]; rfl, rfl⟩
      | 1, _ =>
        go_wp2_with fail
        go_ret
        exact ⟨by rw [HH.out]; rfl, rfl⟩
      | 2, _ =>
        go_wp2_with fail
        go_ret
        exact ⟨by rw [HH.out]; rfl, rfl⟩
      | 3, _ =>
        go_wp2_with fail
        go_ret
        exact ⟨by rw [HH.out]; rfl, rfl⟩
      | 4, _ =>
        go_wp2_with fail
        go_ret
        exact ⟨by rw [HH.out]; rfl, rfl⟩
      | n + 5, h => exact absurd h (by omega)

theorem strip_at (s : ByteArray) (h : 0 < s.size) : s.data.toList = at_ s 0 :: s.data.toList.drop 1 := by
  have := drop_at s 0 h
  simpa using this

theorem ext_list (t : ByteArray) (r : Nat) : (t.extract r t.size).data.toList = t.data.toList.drop r := Lib.extract_to_end t r
theorem ext_size (t : ByteArray) (r : Nat) : (t.extract r t.size).size = t.size - r := by rw [← len_list, ext_list]; simp

theorem empty_of {u : ByteArray} (h : u.size = 0) : u.data.toList = [] := List.eq_nil_of_length_eq_zero (by rw [len_list]; exact h)
theorem isEmpty_yes {u : ByteArray} (h : u.size = 0) : u.toList.isEmpty = true := by rw [Lib.toList_data, empty_of h]; rfl
theorem isEmpty_no {u : ByteArray} (h : 0 < u.size) : u.toList.isEmpty = false := by
  rw [Lib.toList_data, strip_at u h]; rfl

set_option maxHeartbeats 1000000 in
theorem plain_any (s : ByteArray) (w : World) (hs : s.size ≤ 1048576) :
    Calls Trym.prog 17 #[.string s] w fun e w' => e = .returned (.bool (plain s.data.toList)) ∧ w' = w := by
  by_cases h0 : 0 < s.size
  · have hx : s[0] = at_ s 0 := at_eq s 0 h0
    have hl := strip_at s h0
    have hc45 : (((at_ s 0).toNat : Int) == 45) = (at_ s 0 == 45) := by
      rw [Bool.eq_iff_iff, beq_iff_eq, beq_iff_eq, ← UInt8.toNat_inj]; simp; omega
    have HL := hide hl
    clear hl
    go_enter Trym.func17, Trym.ntmps17
    go_upto_if 11 with fail
    go_cut [0] (fun s0 wc => ∃ t : ByteArray, wc = w ∧ s0 = .string t ∧ t.size ≤ 1048576 ∧ Hid (plain s.data.toList = body t.data.toList))
    case first =>
      cases hm : (at_ s 0 == 45)
      · rw [hm] at hc45
        have hp : plain s.data.toList = body s.data.toList := by unfold plain; rw [HL.out]; simp [strip, hm]
        have HP := hide hp
        clear hp hm
        go_wp2_with fail
        go_meet
        case rel => exact ⟨s, rfl, rfl, hs, HP⟩
      · rw [hm] at hc45
        have hp : plain s.data.toList = body (s.extract 1 s.size).data.toList := by rw [ext_list]; unfold plain; rw [HL.out]; simp [strip, hm]
        have HP := hide hp
        have hsz := ext_size s 1
        have hsz' : (s.extract 1 s.size).size ≤ 1048576 := by omega
        clear hp hm
        have HZ := hide hsz'
        clear hsz hsz'
        go_wp2_with fail
        go_meet
        case rel => exact ⟨s.extract 1 s.size, rfl, rfl, HZ.out, HP⟩
    case rest =>
      obtain ⟨t, rfl, rfl, ht, HP⟩ := hcut
      clear hc45 hx
      go_wp2_with fail
      refine (run_any t _ (by omega)).mono ?_
      rintro e w' ⟨rfl, rfl⟩
      have hle := run_le t.data.toList
      rw [len_list] at hle
      generalize hr : run t.data.toList = r at *
      have HR := hide hr
      clear hr
      by_cases r0 : r = 0
      · have z : ((r : Int) == 0) = true := beq_iff_eq.2 (by omega)
        have HZ := hide r0
        clear r0
        go_wp2_with fail
        go_ret
        exact ⟨by rw [HP.out, body, HR.out, HZ.out]; rfl, rfl⟩
      · have z : ((r : Int) == 0) = false := beq_eq_false_iff_ne.2 (by omega)
        have hb : plain s.data.toList = tailOk (t.extract r t.size).data.toList := by rw [HP.out, body, HR.out, ext_list]; simp [r0]
        have HB := hide hb
        have hus := ext_size t r
        have HU := hide hus
        clear hb hus
        go_upto_region 6 with fail
        go_cut [0] (fun s0 wc => ∃ u : ByteArray, wc = w' ∧ s0 = .string u ∧ u.size ≤ 1048576 ∧ Hid (plain s.data.toList = tailOk u.data.toList))
        case first =>
          go_wp2_with fail
          go_meet
          case rel => exact ⟨t.extract r t.size, rfl, rfl, by rw [HU.out]; omega, HB⟩
        case rest =>
          obtain ⟨u, rfl, rfl, hu, HB⟩ := hcut
          clear z r0 hle ht
          by_cases u0 : u.size = 0
          · have e1 := isEmpty_yes u0
            have hf : plain s.data.toList = true := by rw [HB.out, empty_of u0]; rfl
            have HF := hide hf
            have HU0 := hide u0
            clear hf u0
            go_wp2_with fail
            go_ret
            exact ⟨by rw [HF.out]; rfl, rfl⟩
          · have e1 := isEmpty_no (u := u) (by omega)
            have hup : 0 < u.size := by omega
            have hx : u[0] = at_ u 0 := at_eq u 0 hup
            have hl := strip_at u hup
            have hc46 : (((at_ u 0).toNat : Int) != 46) = !(at_ u 0 == 46) := by
              rw [Bool.eq_iff_iff]; simp [← UInt8.toNat_inj]; omega
            have HL2 := hide hl
            clear hl
            cases hm : (at_ u 0 == 46)
            · rw [hm] at hc46
              have hc46' : (((at_ u 0).toNat : Int) != 46) = true := by rw [hc46]; rfl
              have hf : plain s.data.toList = false := by rw [HB.out, HL2.out]; simp [tailOk, hm]
              have HF := hide hf
              clear hc46 hf hm
              go_wp2_with fail
              go_ret
              exact ⟨by rw [HF.out]; rfl, rfl⟩
            · rw [hm] at hc46
              have hc46' : (((at_ u 0).toNat : Int) != 46) = false := by rw [hc46]; rfl
              have hf : plain s.data.toList = (!(u.extract 1 u.size).data.toList.isEmpty && run (u.extract 1 u.size).data.toList == (u.extract 1 u.size).data.toList.length) := by
                rw [HB.out, ext_list]; rw (occs := .pos [1]) [HL2.out]; simp [tailOk, hm]
              have HF := hide hf
              have hvs := ext_size u 1
              have HV := hide hvs
              clear hc46 hf hm hvs
              go_upto_region 11 with fail
              go_cut [0] (fun s0 wd => ∃ v : ByteArray, wd = wc ∧ s0 = .string v ∧ v.size ≤ 1048576 ∧ Hid (plain s.data.toList = (!v.data.toList.isEmpty && run v.data.toList == v.data.toList.length)))
              case first =>
                go_wp2_with fail
                go_meet
                case rel => exact ⟨u.extract 1 u.size, rfl, rfl, by rw [HV.out]; omega, HF⟩
              case rest =>
                obtain ⟨v, rfl, rfl, hv, HF⟩ := hcut
                clear e1 hx hc46'
                by_cases v0 : v.size = 0
                · have e1 := isEmpty_yes v0
                  have e2 : v.toList = [] := by rw [Lib.toList_data]; exact empty_of v0
                  have hg : plain s.data.toList = false := by rw [HF.out, empty_of v0]; rfl
                  have HG := hide hg
                  have HV0 := hide v0
                  clear hg v0 e2
                  go_wp2_with fail
                  go_ret
                  exact ⟨by rw [HG.out]; rfl, rfl⟩
                · have e1 := isEmpty_no (u := v) (by omega)
                  have e2 : ¬ v.toList = [] := by intro h; rw [h] at e1; simp at e1
                  have hg : plain s.data.toList = (run v.data.toList == v.size) := by
                    rw [HF.out, len_list]
                    have : v.data.toList.isEmpty = false := by rw [Lib.toList_data] at e1; exact e1
                    rw [this]; simp
                  have HG := hide hg
                  have hrv := run_le v.data.toList
                  rw [len_list] at hrv
                  clear hg
                  go_wp2_with fail
                  refine (run_any v _ (by omega)).mono ?_
                  rintro e wz ⟨rfl, rfl⟩
                  generalize run v.data.toList = q at *
                  have hqq : ((q : Int) == (v.size : Int)) = (q == v.size) := by rw [Bool.eq_iff_iff, beq_iff_eq, beq_iff_eq]; omega
                  generalize (q == v.size) = b at *
                  go_wp2_with fail
                  go_ret
                  exact ⟨by rw [HG.out]; rfl, rfl⟩
  · have hp : plain s.data.toList = false := by rw [empty_of (by omega)]; rfl
    have hr : run s.data.toList = 0 := by rw [empty_of (by omega)]; rfl
    have HP := hide hp
    have HR := hide hr
    clear hp hr
    go_enter Trym.func17, Trym.ntmps17
    go_wp2_with fail
    refine (run_any s _ (by omega)).mono ?_
    rintro e w' ⟨rfl, rfl⟩
    rw [HR.out]
    go_wp2_with fail
    go_ret
    exact ⟨by rw [HP.out]; rfl, rfl⟩

set_option maxHeartbeats 400000 in
theorem zzplain_any (s : ByteArray) (w : World) (hs : s.size ≤ 1048576) :
    Calls Trym.prog 9 #[.string s] w fun e w' => e = .returned (.bool (plain s.data.toList)) ∧ w' = w := by
  go_enter Trym.func9, Trym.ntmps9
  go_wp2_with fail
  refine (plain_any s _ hs).mono ?_
  rintro e w' ⟨rfl, rfl⟩
  go_wp2_with fail
  go_ret
  exact ⟨rfl, rfl⟩

set_option maxHeartbeats 400000 in
theorem lawPlain (s : ByteArray) (w : World) (hs : s.size ≤ 9223372036854775807) :
    Calls Trym.prog 3 #[.string s] w fun e w' => e = .returned (.bool true) ∧ w' = w := by
  by_cases g1 : s.size ≤ 1048576
  · have h := dfa0 s.data.toList
    have HD := hide h
    clear h
    go_enter Trym.func3, Trym.ntmps3
    go_wp2_with fail
    refine (bytes8_any s _ hs).mono ?_
    rintro e w' ⟨rfl, rfl⟩
    rw [show decide (s.size ≤ 1048576) = true from by simp [g1]]
    go_wp2_with fail
    refine (zzplain_any s _ g1).mono ?_
    rintro e w' ⟨rfl, rfl⟩
    go_wp2_with fail
    refine (dfa_any s _ hs).mono ?_
    rintro e w' ⟨rfl, rfl⟩
    rw [HD.out]
    generalize plain s.data.toList = b at *
    go_wp2_with fail
    go_ret
    exact ⟨by simp, rfl⟩
  · go_enter Trym.func3, Trym.ntmps3
    go_wp2_with fail
    refine (bytes8_any s _ hs).mono ?_
    rintro e w' ⟨rfl, rfl⟩
    rw [show decide (s.size ≤ 1048576) = false from by simp [g1]]
    go_wp2_with fail
    go_ret
    exact ⟨rfl, rfl⟩
end Go.Proofs.Qxb6600277aMods
