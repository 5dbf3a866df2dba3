import Derived.Test.Qxb6001519aModsTools
import Derived.Deep.Cut
namespace Go.Proofs.Qxb6001519aMods
open Go.RowKit

set_option maxRecDepth 100000 in
set_option maxHeartbeats 1000000 in
theorem law2 (w : World) (a b c : List UInt8) (ha : a.length = 20) (hb : b.length = 20) (hc : c.length = 20) :
    Calls Trym.prog 5 #[.agg (ar a), .agg (ar b), .agg (ar c)] w fun e w' => e = .returned (.bool true) ∧ Below w.heap.size w w' := by
  have sz : ∀ (x : World) (o : Obj), (x.alloc o).heap.size = x.heap.size + 1 := fun x o => by simp
  have sa : (Trym.prog.info? 23).map (·.size) = some (ar a).size := by rw [size_ar, ha]; exact info23
  have f0 := ((Blk.new w 22 a).alloc (.cells (ar b) 22)).alloc (.cells (ar c) 22)
  have g1 := ((Blk.new (w.alloc (.cells (ar a) 22)) 22 b).alloc (.cells (ar c) 22)).alloc (.cells (ar a) 23)
  have g2 := (Blk.new ((w.alloc (.cells (ar a) 22)).alloc (.cells (ar b) 22)) 22 c).alloc (.cells (ar a) 23)
  have g3 := Blk.new (((w.alloc (.cells (ar a) 22)).alloc (.cells (ar b) 22)).alloc (.cells (ar c) 22)) 23 a
  simp only [sz] at g1 g2 g3
  have bel : Below w.heap.size w ((((w.alloc (.cells (ar a) 22)).alloc (.cells (ar b) 22)).alloc (.cells (ar c) 22)).alloc (.cells (ar a) 23)) :=
    ((((Below.refl _ _).alloc (Nat.le_refl _) _).alloc (by simp) _).alloc (by simp; omega) _).alloc (by simp; omega) _
  clear sz
  go_enter Trym.func5, Trym.ntmps5
  go_upto_region 2 with (first | (refine wpList_load_blk rfl 22 (.tmp 3) rfl rfl f0 ha Trym.underlying22 info22 ?_) | (refine wpList_store_new rfl 23 (.tmp 7) (.tmp 9) rfl _ rfl (ar a) rfl _ 23 _ (by simp) sa (by rw [size_ar, ha]; rfl) (one_ar _) ?_))
  generalize (((w.alloc (.cells (ar a) 22)).alloc (.cells (ar b) 22)).alloc (.cells (ar c) 22)).alloc (.cells (ar a) 23) = W at *
  clear f0
  refine wp_region_quiet (C := fun w' => Below W.heap.size W w') (by kernel_rfl) (by kernel_rfl) (Below.refl _ _).drew ?_
  refine wpQuiet_one rfl (quiet_of_run (.agg (ar a)) (fun wx hw => exec_load_blk 23 (.tmp 7) rfl rfl (g3.below hw g3.lt) ha Trym.underlying23 info23) ?_)
  refine wpQuiet_one rfl (quiet_of_run (.agg (ar b)) (fun wx hw => exec_load_blk 22 (.tmp 4) rfl (by simp [Act.eval, Act.put]) (g1.below hw g1.lt) hb Trym.underlying22 info22) ?_)
  refine wpQuiet_one rfl (quiet_of_call 6 #[.agg (ar a), .agg (ar b)] (.agg (ar (dist a b))) (fun wx hw => exec_call (.tmp 10) (.tmp 11) rfl (by simp [Act.eval, Act.put]) (by simp [Act.eval, Act.put])) (fun wx hw => (dist_any wx a b ha hb).mono fun e w' h => ⟨h.1, hw.trans (h.2.mono hw.size)⟩) ?_)
  refine wpQuiet_one rfl (quiet_of_run (.agg (ar a)) (fun wx hw => exec_load_blk 23 (.tmp 7) rfl (by simp [Act.eval, Act.put]) (g3.below hw g3.lt) ha Trym.underlying23 info23) ?_)
  refine wpQuiet_one rfl (quiet_of_run (.agg (ar c)) (fun wx hw => exec_load_blk 22 (.tmp 5) rfl (by simp [Act.eval, Act.put]) (g2.below hw g2.lt) hc Trym.underlying22 info22) ?_)
  refine wpQuiet_one rfl (quiet_of_call 6 #[.agg (ar a), .agg (ar c)] (.agg (ar (dist a c))) (fun wx hw => exec_call (.tmp 13) (.tmp 14) rfl (by simp [Act.eval, Act.put]) (by simp [Act.eval, Act.put])) (fun wx hw => (dist_any wx a c ha hc).mono fun e w' h => ⟨h.1, hw.trans (h.2.mono hw.size)⟩) ?_)
  refine wpQuiet_one rfl (quiet_of_run (.bool (b == c)) (fun wx hw => by
    rw [exec_eql (xs := dist a b) (ys := dist a c) (.tmp 12) (.tmp 15) rfl (by simp [Act.eval, Act.put]) (by simp [Act.eval, Act.put]) (dist_len _ _) (dist_len _ _) Trym.underlying24 Trym.eqGuardType24, dist_inj a b c hb hc]) ?_)
  refine wpQuiet_one rfl (quiet_of_run (.bool (b == c)) (fun wx hw => exec_assign (.tmp 16) rfl (by simp [Act.eval, Act.put])) ?_)
  refine wpQuiet_nil ?_
  intro wz hwz
  simp only [Act.put, List.setIfInBounds_toArray, List.set_cons_zero, List.set_cons_succ]
  have belz := bel.trans (hwz.mono bel.size)
  have y1 := g1.below hwz g1.lt
  have y2 := g2.below hwz g2.lt
  clear g1 g2 g3 bel hwz
  have hq : ∀ wx, (binOp .eql 22 (.agg (ar b)) (.agg (ar c))).run Trym.prog wx = .ok (.bool (b == c)) wx := fun wx => eql_ar wx _ _ hb hc Trym.underlying22
  have hq2 : ∀ wx, (Op.equalIn 10000 22 (.agg (ar b)) (.agg (ar c))).run Trym.prog wx = .ok (b == c) wx := fun wx => eq_in 9998 wx _ _ hb hc Trym.underlying22
  generalize (b == c) = r at *
  go_wp2_with (first | (refine wpList_load_blk rfl 22 (.tmp 4) rfl rfl y1 hb Trym.underlying22 info22 ?_) | (refine wpList_load_blk rfl 22 (.tmp 5) rfl rfl y2 hc Trym.underlying22 info22 ?_))
  go_ret
  exact ⟨by simp, belz⟩
end Go.Proofs.Qxb6001519aMods
