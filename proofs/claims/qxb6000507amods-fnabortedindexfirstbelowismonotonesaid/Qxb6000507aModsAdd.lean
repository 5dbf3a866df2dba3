import Derived.Test.Qxb6000507aModsSteps
import Derived.Test.Qxb6000507aModsMix
import Derived.Deep.CutBlock
import Derived.Deep.DeepCutAuto
import Derived.Deep.RegionLaw
namespace Go.Proofs.Qxb6000507aMods
open Go.RowKit

theorem info38 : (Trym.prog.info? 38).map (fun i => (i.zero, i.size, i.bytes)) = some (some (.agg #[.int .i64 0, .int .i64 0, .int .i64 0]), 3, 24) := by kernel_rfl
theorem info22 : (Trym.prog.info? 22).map (fun i => (i.zero, i.size, i.bytes)) = some (some (.slice none 0 0), 1, 24) := by kernel_rfl
theorem info2 : (Trym.prog.info? 2).map (fun i => (i.zero, i.size, i.bytes)) = some (some (.int .i64 0), 1, 8) := by kernel_rfl

section
variable {w0 W : World} {xb ab m : Nat} {p q : Value} {f : Int} {S : Nat → Nat} {V : Nat → Nat → Int} {lv tv : Value} {xs : List Value} {G C : Nat → Nat} {fs : Nat → Int} {n : Nat}

theorem grown_drew {w w' : World} {row : Option Nat} (h : w.grownBy w' row) : w.grownBy w'.drew row := ⟨h.os, h.tape, h.output, h.size, h.block⟩
theorem hide {p : Prop} (h : p) : Hid p := h

theorem St.a0 (h : St w0 W xb ab p q f m S V lv tv xs G C) : W.cell? ⟨ab, 0, none⟩ = some p := by simp [World.cell?, h.ha]
theorem St.a1 (h : St w0 W xb ab p q f m S V lv tv xs G C) : W.cell? ⟨ab, 1, none⟩ = some (.int .i64 f) := by simp [World.cell?, h.ha]
theorem St.a2 (h : St w0 W xb ab p q f m S V lv tv xs G C) : W.cell? ⟨ab, 2, none⟩ = some q := by simp [World.cell?, h.ha]
end

section
variable {xb m : Nat} {S : Nat → Nat} {V : Nat → Nat → Int} {lv tv : Value} {xs : List Value} {G C : Nat → Nat} {fs : Nat → Int} {n : Nat}

theorem push_at {w0 W w1 : World} {xb ab : Nat} {p q : Value} {f : Int} {m : Nat} {S : Nat → Nat} {V : Nat → Nat → Int} {lv tv : Value} {xs : List Value} {G C : Nat → Nat} (h : St w0 W xb ab p q f m S V lv tv xs G C) {g cap tb ct L : Nat} (hlo : 1 ≤ L) (hl : L ≤ m)
    (htv : tv = .slice (some ⟨tb, 0, none⟩) m ct) (hat : (Value.slice (some ⟨G (L - 1), 0, none⟩) (S L) (C (L - 1))).ownBlock = some g ∨ g = W.heap.size)
    (hown : w1.ownsRow (xb + 1) 2 1 (.slice (some ⟨g, 0, none⟩) (S L + 1) cap) (S L + 1) (((List.range (S L)).map fun i => .int .i64 (V L i)) ++ [.int .i64 f])) (hgrow : W.grownBy w1 (Value.slice (some ⟨G (L - 1), 0, none⟩) (S L) (C (L - 1))).ownBlock) :
    St w0 (w1.setCell ⟨tb, L - 1, none⟩ (.slice (some ⟨g, 0, none⟩) (S L + 1) cap)) xb ab p q f m (upS S L (S L + 1)) (upV V L (S L) f) lv tv xs (upS G (L - 1) g) (upS C (L - 1) cap) := by
  obtain ⟨l, rfl⟩ : ∃ l, L = l + 1 := ⟨L - 1, by omega⟩
  exact h.push (l := l) (by omega) htv (by simpa [Value.ownBlock] using hat) hown hgrow
theorem set_at {w0 W : World} {xb ab : Nat} {p q : Value} {f : Int} {m : Nat} {S : Nat → Nat} {V : Nat → Nat → Int} {lv tv : Value} {xs : List Value} {G C : Nat → Nat} (h : St w0 W xb ab p q f m S V lv tv xs G C) {L i : Nat} (hlo : 1 ≤ L) (hl : L ≤ m) (hi : i < S L) (u : Int) :
    St w0 (W.setCell ⟨G (L - 1), i, none⟩ (.int .i64 u)) xb ab p q f m S (upV V L i u) lv tv xs G C := by
  obtain ⟨l, rfl⟩ : ∃ l, L = l + 1 := ⟨L - 1, by omega⟩
  exact h.set (l := l) (by omega) hi u

def Least (V : Nat → Nat → Int) (l k : Nat) (u : Int) : Prop := ∀ b, u < b ↔ ∃ i, i < k ∧ V l i < b
theorem least_one (V : Nat → Nat → Int) (l : Nat) : Least V l 1 (V l 0) := fun b => ⟨fun h => ⟨0, by omega, h⟩, fun ⟨i, hi, h⟩ => by
  have : i = 0 := by omega
  subst this; exact h⟩
theorem least_step {V : Nat → Nat → Int} {l k : Nat} {u : Int} (h : Least V l k u) : Least V l (k + 1) (if V l k < u then V l k else u) := fun b => by
  have hb := h b
  rw [show (if V l k < u then V l k else u) = min u (V l k) from by omega]
  constructor
  · intro hm
    by_cases hv : V l k < b
    · exact ⟨k, by omega, hv⟩
    · obtain ⟨i, hi, h⟩ := hb.1 (by omega)
      exact ⟨i, by omega, h⟩
  · rintro ⟨i, hi, h⟩
    by_cases hik : i = k
    · subst hik; omega
    · have := hb.2 ⟨i, by omega, h⟩; omega

set_option maxRecDepth 100000 in
set_option maxHeartbeats 1000000 in
theorem add_any (w : World) (h : Ix w xb m S V lv tv xs G C) (g : Good fs n m S V) (hn : n ≤ 1000000) (p f q : Int) (hf : Hid (f = fs n)) :
    Calls Trym.prog 17 #[.pointer (some ⟨xb, 0, none⟩), .agg #[.int .i64 p, .int .i64 f, .int .i64 q]] w fun e w' => e = .returned (.tuple #[]) ∧ Below xb w w' ∧ ∃ m' S' V' lv' tv' xs' G' C', Ix w' xb m' S' V' lv' tv' xs' G' C' ∧ Good fs (n + 1) m' S' V' := by
  obtain ⟨ao, cap, rfl, _, _⟩ := owns_form h.hl
  obtain ⟨i38, hi38, hz38, hs38, hb38⟩ := info_parts info38
  obtain ⟨i22, hi22, hz22, hs22, hb22⟩ := info_parts info22
  obtain ⟨i2, hi2, hz2, hs2, hb2⟩ := info_parts info2
  have hst : St w (w.alloc (.cells #[.int .i64 p, .int .i64 f, .int .i64 q] 38)) xb w.heap.size (.int .i64 p) (.int .i64 q) f m S V _ tv xs G C :=
    ⟨h.kept (World.grownBy_alloc _ _ _), heap_alloc_new _ _, (Below.refl _ _).alloc (by have := lt_of_block h.hx; omega) _⟩
  have hla : (Value.slice ao (S 0) cap).ownBlock ≠ some w.heap.size := fun e => by have := h.hl.lt _ e; omega
  have hs0 := g.s0
  go_enter Trym.func17, Trym.ntmps17
  go_upto_region 1 with fail
  go_cut [3] (fun s3 wc => ∃ ab lv' xs', s3 = .pointer (some ⟨ab, 0, none⟩) ∧ St w wc xb ab (.int .i64 p) (.int .i64 q) f m (upS S 0 (S 0 + 1)) (upV V 0 (S 0) f) lv' tv xs' G C)
  case first =>
    generalize w.alloc (.cells #[.int .i64 p, .int .i64 f, .int .i64 q] 38) = W at *
    generalize w.heap.size = ab at *
    have x0 := hst.ix.x0
    have z0 := hst.ix.z0
    have a0 := hst.a0
    have a1 := hst.a1
    have a2 := hst.a2
    have HS : Hid (S 0 = n) := hs0
    clear h g hs0
    have hst2 : St w (W.alloc (.cells #[.int .i64 p, .int .i64 f, .int .i64 q] 38)).drew xb ab (.int .i64 p) (.int .i64 q) f m S V _ tv xs G C := hst.kept (grown_drew (World.grownBy_alloc W _ none))
    have hnews : ∀ j u, [Value.int .i64 p, .int .i64 f, .int .i64 q][j]? = some u → (W.alloc (.cells #[.int .i64 p, .int .i64 f, .int .i64 q] 38)).drew.cell? ((⟨W.heap.size, 0, none⟩ : Addr).add j) = some u :=
      World.news_of_block (w := (W.alloc (.cells #[.int .i64 p, .int .i64 f, .int .i64 q] 38)).drew) (cs := #[.int .i64 p, .int .i64 f, .int .i64 q]) (heap_alloc_new W _)
    have x0a : (W.alloc (.cells #[.int .i64 p, .int .i64 f, .int .i64 q] 38)).cell? ⟨xb, 0, none⟩ = some (.slice ao (S 0) cap) := hst2.ix.x0
    have HN := hide hnews
    have hbase : xb + 1 ≤ W.heap.size + 1 := by have := lt_of_block hst.ix.hx; omega
    clear hnews
    go_region_law (refine step_append_lies _ rfl (.tmp 13) (.tmp 15) 32 rfl (xb + 1) 38 i38 _ 3 24 Trym.underlying32 hi38 hz38 hs38 hb38 rfl (by decide) (.slice ao (S 0) cap) (S 0) xs (by simp [Act.eval]) hst2.ix.hl ⟨W.heap.size, 0, none⟩ 1 1 [.int .i64 p, .int .i64 f, .int .i64 q] (by simp [Act.eval]) rfl HN.out (by simp [Value.oneCell']) (by decide) (by rw [HS.out]; unfold maxLen; omega) (by rw [HS.out]; omega) (by simpa using hbase) _ rfl ?_; intro g cap' w1 hown hgrow hat hlt; have x01 := hgrow.cell hst2.ix.x0 (fun e => own_lo hst2.ix.hl (Nat.lt_succ_self xb) e.symm); have z01 := (hgrow.frozen_far ⟨xb, 0, none⟩ (lt_of_block hst2.ix.hx) (fun e => own_lo hst2.ix.hl (Nat.lt_succ_self xb) e.symm)).trans hst2.ix.z0; have R := hst2.list hla hown hgrow)
    all_goals (clear hst hst2 x01 z01 hown hgrow hat hlt hla x0 z0 a0 a1 a2 x0a HN hbase hi38 hz38 hs38 hb38; go_wp2_with fail; go_meet; exact ⟨ab, _, _, rfl, R⟩)
  case rest =>
    obtain ⟨ab, lv', xs', rfl, hst'⟩ := hcut
    have mx : Mix fs n 1 m (upS S 0 (S 0 + 1)) (upV V 0 (S 0) f) :=
      mix_start g (by simp [upS, hs0]) (fun l hl => by simp [upS, hl]) (by simp [upV, hs0, hf.out]) (fun l i hli => by simp only [upV]; rw [if_neg]; rw [hs0]; omega)
    have e1 : upS S 0 (S 0 + 1) 0 = n + 1 := by simp [upS, hs0]
    generalize upS S 0 (S 0 + 1) = S1 at *
    generalize upV V 0 (S 0) f = V1 at *
    clear hst h hla g hs0 hi38 hz38 hs38 hb38
    obtain ⟨ao1, cap1, rfl, _, _⟩ := owns_form hst'.ix.hl
    have x0 := hst'.ix.x0
    rw [e1] at x0
    go_upto_block 0 with fail
    go_wp2_with fail
    clear x0
    go_loopg [4, 5] n (fun k at_ lev wr => ∃ (L m : Nat) (S : Nat → Nat) (V : Nat → Nat → Int) (lv tv : Value) (xs : List Value) (G C : Nat → Nat), at_ = .int .i64 (k : Nat) ∧ lev = .int .i64 L ∧ Hid (k = n / 16 ^ (L - 1)) ∧ St w wr xb ab (.int .i64 p) (.int .i64 q) f m S V lv tv xs G C ∧ Mix fs n L m S V)
    case atStart => exact ⟨1, m, S1, V1, _, tv, xs', G, C, by go_num, rfl, by simp [Hid], hst', mx⟩
    case round =>
      obtain ⟨L, m, S, V, lv, tv, xs, G, C, rfl, rfl, hk, hst, mx⟩ := hrel
      clear hst'
      obtain ⟨ao2, cap2, rfl, _, _⟩ := owns_form hst.ix.ht
      have x1 := hst.ix.x1
      have z1 := hst.ix.z1
      have m0 := hst.ix.m0
      have hm1 := mx.m1
      by_cases ha : gk < 16
      · go_wp2_with fail
        go_end0
        exact ⟨rfl, hst.bel, m, S, V, _, _, xs, G, C, hst.ix, mix_end mx (by rw [← hk.out]; exact ha)⟩
      · have hp : 16 ^ L ≤ n := at_pow (by rw [← hk.out]; omega) mx.lo
        have hL : L < n := Nat.lt_of_lt_of_le (Nat.lt_pow_self (by omega)) hp
        have hgn : gk ≤ n := by rw [hk.out]; exact Nat.div_le_self _ _
        have HP := hide hp
        clear hp
        go_upto_if 35 with fail
        go_cut [6, 7] (fun _ _ wc => ∃ (m : Nat) (S : Nat → Nat) (V : Nat → Nat → Int) (tv : Value) (G C : Nat → Nat), St w wc xb ab (.int .i64 p) (.int .i64 q) f m S V lv tv xs G C ∧ Mid fs n L m S V)
        case first =>
          by_cases hLm : L ≤ m
          · go_wp2_with fail
            go_meet
            case rel => exact ⟨m, S, V, _, G, C, hst, mix_mid mx (by rw [← hk.out]; omega) hLm⟩
          · go_wp2_with (go_at_call 18; refine (value_any _ hst.ix (L - 1) 0 _ _ (by omega) (by omega) (mix_in mx (by rw [← hk.out]; omega) 0 (by omega)).1 (mix_in mx (by rw [← hk.out]; omega) 0 (by omega)).2).mono ?_; rintro e wr ⟨rfl, rfl⟩)
            go_loop [6, 7] (fun lst i => ∃ (k : Nat) (u : Int), 1 ≤ k ∧ k ≤ 16 ∧ i = .int .i64 k ∧ lst = .int .i64 u ∧ Least V (L - 1) k u) (fun _ i => 16 - (intOf i).toNat)
            case atStart => exact ⟨1, _, by omega, by omega, rfl, rfl, least_one _ _⟩
            case round =>
              obtain ⟨k, u, hk1, hk2, rfl, rfl, hu⟩ := hrel
              by_cases hk16 : k < 16
              · go_wp2_with (go_at_call 18; refine (value_any _ hst.ix (L - 1) k _ _ (by omega) (by omega) (mix_in mx (by rw [← hk.out]; omega) k (by omega)).1 (mix_in mx (by rw [← hk.out]; omega) k (by omega)).2).mono ?_; rintro e wr ⟨rfl, rfl⟩)
                go_round
                case rel => exact ⟨k + 1, _, by omega, by omega, by go_num, rfl, least_step hu⟩
                case measure => simp [intOf]; omega
              · have hst2 : St w ((wr.alloc (.cells #[.int .i64 u] 2)).alloc (.cells #[.slice (some ⟨wr.heap.size, 0, none⟩) 1 1] 22)) xb ab (.int .i64 p) (.int .i64 q) f m S V lv (.slice ao2 m cap2) xs G C := (hst.kept (World.grownBy_alloc _ _ none)).kept (World.grownBy_alloc _ _ none)
                have hnews : ∀ j u', [Value.slice (some ⟨wr.heap.size, 0, none⟩) 1 1][j]? = some u' → ((wr.alloc (.cells #[.int .i64 u] 2)).alloc (.cells #[.slice (some ⟨wr.heap.size, 0, none⟩) 1 1] 22)).cell? ((⟨wr.heap.size + 1, 0, none⟩ : Addr).add j) = some u' := by
                  have := World.news_of_block (w := (wr.alloc (.cells #[.int .i64 u] 2)).alloc (.cells #[.slice (some ⟨wr.heap.size, 0, none⟩) 1 1] 22)) (cs := #[.slice (some ⟨wr.heap.size, 0, none⟩) 1 1]) (heap_alloc_new _ _)
                  simpa using this
                have HN := hide hnews
                have hbase : xb < wr.heap.size := lt_of_block hst.ix.hx
                have hrow : ((wr.alloc (.cells #[.int .i64 u] 2)).alloc (.cells #[.slice (some ⟨wr.heap.size, 0, none⟩) 1 1] 22)).heap[wr.heap.size]? = some (.cells #[.int .i64 u] 2 (0, 0)) := by
                  rw [Below.heap_alloc _ _ _ (by simp)]; exact heap_alloc_new _ _
                have HR := hide hrow
                have hG : ∀ l, l < m → G l ≠ wr.heap.size := fun l hl => by have := (hst.ix.hr l hl).lt (G l) rfl; omega
                clear hnews hrow
                have hk' : k = 16 := by omega
                have HU : Hid (Least V (L - 1) 16 u) := by rw [hk'] at hu; exact hu
                clear hk'
                go_wp2_with (at_builtin; refine wpList_append_lies _ rfl (.tmp 55) (.tmp 58) 33 rfl (xb + 1) 22 i22 (.slice none 0 0) 1 24 Trym.underlying33 hi22 hz22 hs22 hb22 rfl (by decide) (.slice ao2 m cap2) m _ rfl hst2.ix.ht ⟨wr.heap.size + 1, 0, none⟩ 1 1 [.slice (some ⟨wr.heap.size, 0, none⟩) 1 1] rfl rfl HN.out (by simp [Value.oneCell']) (by decide) (by unfold maxLen; omega) (by omega) (by simp; omega) _ rfl ?_; intro g cap' w1 hown hgrow hat hlt; have x11 := hgrow.cell hst2.ix.x1 (fun e => own_lo hst2.ix.ht (Nat.lt_succ_self xb) e.symm); have z11 := (hgrow.frozen_far ⟨xb, 1, none⟩ (lt_of_block hst2.ix.hx) (fun e => own_lo hst2.ix.ht (Nat.lt_succ_self xb) e.symm)).trans hst2.ix.z1; have R := hst2.level HR.out hbase hG hown hgrow; clear hown hgrow hat hlt)
                go_meet
                case rel => exact ⟨m + 1, _, _, _, _, _, R, mix_new mx (by rw [← hk.out]; omega) (by omega) u HU.out (by simp [upS]) (fun l hl => by simp [upS, hl]) (by simp [upV]) (fun l i hli => by simp only [upV]; rw [if_neg]; omega)⟩
        case rest =>
          obtain ⟨m, S, V, tv, G, C, hst, md⟩ := hcut
          have hlo := md.lo
          have hLm := md.m1
          obtain ⟨tb, ct, rfl, ht⟩ := hst.ix.t (L - 1) (by omega)
          have x1 := hst.ix.x1
          have a1 := hst.a1
          have hsl := hst.ix.sl (L - 1) (by omega)
          have hrow := hst.ix.hr (L - 1) (by omega)
          have ht1 := hst.ix.ht
          rw [show L - 1 + 1 = L from by omega] at ht hsl hrow
          have hfr := ht1.frozenAt (L - 1)
          have hk2 : gk / 16 = n / 16 ^ L := by rw [hk.out]; exact at_next mx.lo
          have HK := hide hk2
          have hm0 := hst.ix.m0
          have hle := (mid_at md).1
          rw [← hk2] at hle
          clear hk2
          by_cases hat : gk / 16 = S L
          · have hb : ((gk : Int) / 16 == (S L : Int)) = true := beq_iff_eq.2 (by omega)
            have hst2 : St w (wc.alloc (.cells #[.int .i64 f] 2)).drew xb ab (.int .i64 p) (.int .i64 q) f m S V lv (.slice (some ⟨tb, 0, none⟩) m ct) xs G C := hst.kept (grown_drew (World.grownBy_alloc wc _ none))
            have hrow2 := hst2.ix.hr (L - 1) (by omega)
            rw [show L - 1 + 1 = L from by omega] at hrow2
            have hnews : ∀ j u, [Value.int .i64 f][j]? = some u → (wc.alloc (.cells #[.int .i64 f] 2)).drew.cell? ((⟨wc.heap.size, 0, none⟩ : Addr).add j) = some u :=
              World.news_of_block (w := (wc.alloc (.cells #[.int .i64 f] 2)).drew) (cs := #[.int .i64 f]) (heap_alloc_new wc _)
            have HN := hide hnews
            have hbase : xb < wc.heap.size := lt_of_block hst.ix.hx
            have hta : (wc.alloc (.cells #[.int .i64 f] 2)).cell? ⟨tb, L - 1, none⟩ = some (.slice (some ⟨G (L - 1), 0, none⟩) (S L) (C (L - 1))) := by
              rw [World.cell?_of_block (w := wc) (Below.heap_alloc _ _ _ (ht1.lt tb rfl).2)]; exact ht
            have haa : (wc.alloc (.cells #[.int .i64 f] 2)).cell? ⟨ab, 1, none⟩ = some (.int .i64 f) := hst2.a1
            have htg : some tb ≠ some (G (L - 1)) := by
              rcases own_ne ht1 hrow (by decide) with h | h
              · simp [Value.ownBlock] at h
              · exact h
            have htl : tb < (wc.alloc (.cells #[.int .i64 f] 2)).drew.heap.size := (hst2.ix.ht.lt tb rfl).2
            have HTG := hide htg
            have HTL := hide htl
            have HROW := hide hrow2
            clear hnews htg htl hrow2 hrow
            go_wp2_with fail
            go_region_law (refine step_append_lies _ rfl (.tmp 80) (.tmp 83) 22 rfl (xb + 1) 2 i2 (.int .i64 0) 1 8 Trym.underlying22 hi2 hz2 hs2 hb2 rfl (by decide) (.slice (some ⟨G (L - 1), 0, none⟩) (S L) (C (L - 1))) (S L) _ (by simp [Act.eval]) HROW.out ⟨wc.heap.size, 0, none⟩ 1 1 [.int .i64 f] (by simp [Act.eval]) rfl HN.out (by simp [Value.oneCell']) (by decide) (by unfold maxLen; omega) (by omega) (by simp; omega) _ rfl ?_; intro g cap' w1 hown hgrow hat2 hlt; have t11 := (hgrow.cell_far ⟨tb, L - 1, none⟩ HTL.out HTG.out).trans hta; have z11 := (hgrow.frozen_far ⟨tb, L - 1, none⟩ HTL.out HTG.out).trans (hst2.ix.ht.frozenAt (L - 1)); have R := push_at hst2 hlo hLm rfl hat2 hown hgrow; clear hown hgrow hat2 hlt)
            all_goals (clear t11 z11 hst hst2 hta haa; go_wp2_with fail)
            all_goals go_roundg (gk / 16)
            all_goals first | exact ⟨L + 1, m, _, _, lv, _, xs, _, _, by go_num, by go_num, by rw [Nat.add_sub_cancel]; exact HK, R, mid_push md (by rw [← HK.out]; exact hat) (by simp [upS]) (fun l hl => by simp [upS, hl]) (by simp [upV, hf.out]) (fun l i hli => by simp only [upV]; rw [if_neg]; omega)⟩ | omega
          · have hb : ((gk : Int) / 16 == (S L : Int)) = false := beq_eq_false_iff_ne.2 (by omega)
            have hin : gk / 16 < S L := by omega
            have he := hst.ix.r (L - 1) (by omega) (gk / 16) (by rw [show L - 1 + 1 = L from by omega]; exact hin)
            rw [show L - 1 + 1 = L from by omega] at he
            have hef := hrow.frozenAt (gk / 16)
            by_cases hmin : f < V L (gk / 16)
            · have R := (set_at hst hlo hLm hin f).kept (grown_drew (World.grownBy.refl _ none))
              have M := mid_set (V' := upV V L (gk / 16) f) md (by rw [← HK.out]; exact hat) (by rw [← HK.out, ← hf.out]; simp only [upV, and_self, if_true]; omega) (fun l i hli => by rw [← HK.out] at hli; simp only [upV]; rw [if_neg]; omega)
              go_wp2_with fail
              go_region
              all_goals go_wp2_with fail
              all_goals go_roundg (gk / 16)
              all_goals first | exact ⟨L + 1, m, _, _, lv, _, xs, _, _, by go_num, by go_num, by rw [Nat.add_sub_cancel]; exact HK, R, M⟩ | omega
            · have R := (set_at hst hlo hLm hin (V L (gk / 16))).kept (grown_drew (World.grownBy.refl _ none))
              have M := mid_set (V' := upV V L (gk / 16) (V L (gk / 16))) md (by rw [← HK.out]; exact hat) (by rw [← HK.out, ← hf.out]; simp only [upV, and_self, if_true]; omega) (fun l i hli => by rw [← HK.out] at hli; simp only [upV]; rw [if_neg]; omega)
              go_wp2_with fail
              go_region
              all_goals go_wp2_with fail
              all_goals go_roundg (gk / 16)
              all_goals first | exact ⟨L + 1, m, _, _, lv, _, xs, _, _, by go_num, by go_num, by rw [Nat.add_sub_cancel]; exact HK, R, M⟩ | omega
end
end Go.Proofs.Qxb6000507aMods
