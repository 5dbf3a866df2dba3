import Derived.Test.Qxb6001519aModsTools
import Derived.Deep.Cut
namespace Go.Proofs.Qxb6001519aMods
open Go.RowKit

set_option maxRecDepth 100000 in
set_option maxHeartbeats 1000000 in
theorem law1 (w : World) (a b : List UInt8) (ha : a.length = 20) (hb : b.length = 20) :
    Calls Trym.prog 3 #[.agg (ar a), .agg (ar b)] w fun e w' => e = .returned (.bool true) ∧ Below w.heap.size w w' := by
  have sz : ∀ (x : World) (o : Obj), (x.alloc o).heap.size = x.heap.size + 1 := fun x o => by simp
  have sa : (Trym.prog.info? 23).map (·.size) = some (ar a).size := by rw [size_ar, ha]; exact info23
  have sb : (Trym.prog.info? 23).map (·.size) = some (ar b).size := by rw [size_ar, hb]; exact info23
  have f0 := (Blk.new w 22 a).alloc (.cells (ar b) 22)
  have f1 := Blk.new (w.alloc (.cells (ar a) 22)) 22 b
  have f1' := f1.alloc (.cells (ar a) 23)
  have g0 := (Blk.new ((w.alloc (.cells (ar a) 22)).alloc (.cells (ar b) 22)) 23 a).alloc (.cells (ar b) 23)
  have g1 := Blk.new (((w.alloc (.cells (ar a) 22)).alloc (.cells (ar b) 22)).alloc (.cells (ar a) 23)) 23 b
  have q0 := (f0.alloc (.cells (ar a) 23)).alloc (.cells (ar b) 23)
  have q1 := f1'.alloc (.cells (ar b) 23)
  simp only [sz] at f0 f1 f1' g0 g1 q0 q1
  clear sz
  go_enter Trym.func3, Trym.ntmps3
  go_wp2_with (first | (refine wpList_load_blk rfl 22 (.tmp 2) rfl rfl f0 ha Trym.underlying22 info22 ?_) | (refine wpList_store_new rfl 23 (.tmp 5) (.tmp 10) rfl _ rfl (ar a) rfl _ 23 _ (by simp) sa (by rw [size_ar, ha]; rfl) (one_ar _) ?_) | (refine wpList_load_blk rfl 22 (.tmp 3) rfl rfl f1' hb Trym.underlying22 info22 ?_) | (refine wpList_store_new rfl 23 (.tmp 6) (.tmp 11) rfl _ rfl (ar b) rfl _ 23 _ (by simp) sb (by rw [size_ar, hb]; rfl) (one_ar _) ?_) | (refine wpList_load_blk rfl 23 (.tmp 5) rfl rfl g0 ha Trym.underlying23 info23 ?_) | (refine wpList_load_blk rfl 23 (.tmp 6) rfl rfl g1 hb Trym.underlying23 info23 ?_))
  refine (dist_any _ a b ha hb).mono ?_
  rintro e w5 ⟨rfl, b5⟩
  have bel : Below w.heap.size w ((((w.alloc (.cells (ar a) 22)).alloc (.cells (ar b) 22)).alloc (.cells (ar a) 23)).alloc (.cells (ar b) 23)) :=
    ((((Below.refl _ _).alloc (Nat.le_refl _) _).alloc (by simp) _).alloc (by simp; omega) _).alloc (by simp; omega) _
  have bel5 := bel.trans (b5.mono bel.size)
  have p0 := (q0.below b5 q0.lt).alloc (.cells (ar (dist a b)) 24)
  have p1 := (q1.below b5 q1.lt).alloc (.cells (ar (dist a b)) 24)
  have p2 := (g0.below b5 g0.lt).alloc (.cells (ar (dist a b)) 24)
  have p3 := (g1.below b5 g1.lt).alloc (.cells (ar (dist a b)) 24)
  have p4 := Blk.new w5 24 (dist a b)
  have sd : (Trym.prog.info? 24).map (·.size) = some (ar (dist a b)).size := by rw [size_ar, dist_len]; exact info24
  have sd' : (Trym.prog.info? 24).map (·.size) = some (ar (dist b a)).size := by rw [size_ar, dist_len]; exact info24
  have bel6 := bel5.alloc (o := .cells (ar (dist a b)) 24) bel5.size
  clear b5 q0 q1 g0 g1 f0 f1 f1' bel bel5
  go_wp2_with (first | (refine wpList_store_new rfl 24 (.tmp 7) (.tmp 14) rfl _ rfl (ar (dist a b)) rfl _ 24 _ (by simp) sd (by rw [size_ar, dist_len]; rfl) (one_ar _) ?_) | (refine wpList_load_blk rfl 23 (.tmp 6) rfl rfl p3 hb Trym.underlying23 info23 ?_) | (refine wpList_load_blk rfl 23 (.tmp 5) rfl rfl p2 ha Trym.underlying23 info23 ?_))
  refine (dist_any _ b a hb ha).mono ?_
  rintro e w7 ⟨rfl, b7⟩
  have bel7 := bel6.trans (b7.mono bel6.size)
  have h0 := ((p0.below b7 p0.lt).alloc (.cells (ar (dist b a)) 24)).alloc (.cells (ar zeros) 24)
  have h1 := ((p1.below b7 p1.lt).alloc (.cells (ar (dist b a)) 24)).alloc (.cells (ar zeros) 24)
  have h2 := ((p2.below b7 p2.lt).alloc (.cells (ar (dist b a)) 24)).alloc (.cells (ar zeros) 24)
  have h4 := ((p4.below b7 p4.lt).alloc (.cells (ar (dist b a)) 24)).alloc (.cells (ar zeros) 24)
  have h5 := (Blk.new w7 24 (dist b a)).alloc (.cells (ar zeros) 24)
  have h6 := Blk.new (w7.alloc (.cells (ar (dist b a)) 24)) 24 zeros
  have bel9 := (bel7.alloc (o := .cells (ar (dist b a)) 24) bel7.size).alloc (o := .cells (ar zeros) 24) (by have := bel7.size; simp; omega)
  have sz : ∀ (x : World) (o : Obj), (x.alloc o).heap.size = x.heap.size + 1 := fun x o => by simp
  simp only [sz] at h6
  clear sz b7 p0 p1 p2 p3 p4 bel6 bel7
  go_upto_region 6 with (refine wpList_store_new rfl 24 (.tmp 8) (.tmp 17) rfl _ rfl (ar (dist b a)) rfl _ 24 _ (by simp) sd' (by rw [size_ar, dist_len]; rfl) (one_ar _) ?_)
  rw [zero_ar]
  generalize (w7.alloc (.cells (ar (dist b a)) 24)).alloc (.cells (ar zeros) 24) = W at *
  generalize w7.heap.size = M at *
  generalize w5.heap.size = M' at *
  have hne : ∀ wx, (binOp .neq 24 (.agg (ar (dist a b))) (.agg (ar (dist b a)))).run Trym.prog wx = .ok (.bool false) wx := fun wx => by
    rw [neq_ar wx _ _ (dist_len _ _) (dist_len _ _) Trym.underlying24, dist_comm b a]; simp
  have hne2 : ∀ wx, (Op.equalIn 10000 24 (.agg (ar (dist a b))) (.agg (ar (dist b a)))).run Trym.prog wx = .ok true wx := fun wx => by
    rw [eq_in 9998 wx _ _ (dist_len _ _) (dist_len _ _) Trym.underlying24, dist_comm b a]; simp
  go_upto_region 8 with (first | (refine wpList_load_blk rfl 24 (.tmp 7) rfl rfl h4 (dist_len _ _) Trym.underlying24 info24 ?_) | (refine wpList_load_blk rfl 24 (.tmp 8) rfl rfl h5 (dist_len _ _) Trym.underlying24 info24 ?_))
  clear hne hne2
  refine wp_region_quiet (C := fun w' => Below W.heap.size W w') (by kernel_rfl) (by kernel_rfl) (Below.refl _ _).drew ?_
  refine wpQuiet_one rfl (quiet_of_run (.agg (ar (dist a b))) (fun wx hw => exec_load_blk 24 (.tmp 7) rfl rfl (h4.below hw h4.lt) (dist_len _ _) Trym.underlying24 info24) ?_)
  refine wpQuiet_one rfl (quiet_of_run (.agg (ar zeros)) (fun wx hw => exec_load_blk 24 (.tmp 9) rfl rfl (h6.below hw h6.lt) zeros_len Trym.underlying24 info24) ?_)
  refine wpQuiet_one rfl (quiet_of_run (.bool (dist a b == zeros)) (fun wx hw => exec_eql (.tmp 21) (.tmp 22) rfl (by simp [Act.eval, Act.put]) (by simp [Act.eval, Act.put]) (dist_len _ _) zeros_len Trym.underlying24 Trym.eqGuardType24) ?_)
  refine wpQuiet_one rfl (quiet_of_run (.agg (ar a)) (fun wx hw => exec_load_blk 22 (.tmp 2) rfl (by simp [Act.eval, Act.put]) (h0.below hw h0.lt) ha Trym.underlying22 info22) ?_)
  refine wpQuiet_one rfl (quiet_of_run (.agg (ar b)) (fun wx hw => exec_load_blk 22 (.tmp 3) rfl (by simp [Act.eval, Act.put]) (h1.below hw h1.lt) hb Trym.underlying22 info22) ?_)
  refine wpQuiet_one rfl (quiet_of_run (.bool (a == b)) (fun wx hw => exec_eql (.tmp 24) (.tmp 25) rfl (by simp [Act.eval, Act.put]) (by simp [Act.eval, Act.put]) ha hb Trym.underlying22 Trym.eqGuardType22) ?_)
  refine wpQuiet_one rfl (quiet_of_run (.bool false) (fun wx hw => by
    rw [exec_neq_bool (p := dist a b == zeros) (q := a == b) (.tmp 23) (.tmp 26) rfl (by simp [Act.eval, Act.put]) (by simp [Act.eval, Act.put]), dist_zero a b ha hb]; simp) ?_)
  refine wpQuiet_nil ?_
  intro wy hwy
  simp only [Act.put, List.setIfInBounds_toArray, List.set_cons_zero, List.set_cons_succ]
  have y5 := h2.below hwy h2.lt
  have y9 := h6.below hwy h6.lt
  have bely := bel9.trans (hwy.mono bel9.size)
  clear h0 h1 h2 h4 h5 h6 bel9 hwy
  go_upto_region 10 with fail
  refine wp_region_quiet (C := fun w' => Below wy.heap.size wy w') (by kernel_rfl) (by kernel_rfl) (Below.refl _ _).drew ?_
  refine wpQuiet_one rfl (quiet_of_run (.agg (ar a)) (fun wx hw => exec_load_blk 23 (.tmp 5) rfl rfl (y5.below hw y5.lt) ha Trym.underlying23 info23) ?_)
  refine wpQuiet_one rfl (quiet_of_run (.agg (ar a)) (fun wx hw => exec_load_blk 23 (.tmp 5) rfl (by simp [Act.eval, Act.put]) (y5.below hw y5.lt) ha Trym.underlying23 info23) ?_)
  refine wpQuiet_one rfl (quiet_of_call 6 #[.agg (ar a), .agg (ar a)] (.agg (ar (dist a a))) (fun wx hw => exec_call (.tmp 28) (.tmp 29) rfl (by simp [Act.eval, Act.put]) (by simp [Act.eval, Act.put])) (fun wx hw => (dist_any wx a a ha ha).mono fun e w' h => ⟨h.1, hw.trans (h.2.mono hw.size)⟩) ?_)
  refine wpQuiet_one rfl (quiet_of_run (.agg (ar zeros)) (fun wx hw => exec_load_blk 24 (.tmp 9) rfl (by simp [Act.eval, Act.put]) (y9.below hw y9.lt) zeros_len Trym.underlying24 info24) ?_)
  refine wpQuiet_one rfl (quiet_of_run (.bool true) (fun wx hw => by
    rw [exec_eql (xs := dist a a) (ys := zeros) (.tmp 30) (.tmp 31) rfl (by simp [Act.eval, Act.put]) (by simp [Act.eval, Act.put]) (dist_len _ _) zeros_len Trym.underlying24 Trym.eqGuardType24, dist_self]; simp) ?_)
  refine wpQuiet_one rfl (quiet_of_run (.bool true) (fun wx hw => exec_assign (.tmp 32) rfl (by simp [Act.eval, Act.put])) ?_)
  refine wpQuiet_nil ?_
  intro wz hwz
  simp only [Act.put, List.setIfInBounds_toArray, List.set_cons_zero, List.set_cons_succ]
  have belz := bely.trans (hwz.mono bely.size)
  clear y5 y9 bely hwz
  go_wp2_with fail
  go_ret
  exact ⟨rfl, belz⟩
end Go.Proofs.Qxb6001519aMods
