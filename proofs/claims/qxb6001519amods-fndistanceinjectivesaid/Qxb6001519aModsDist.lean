import Derived.Test.Qxb6001519aModsRows
import Derived.WalkKit
import Derived.WalkSpells
import Derived.WalkLawsBesides
import Derived.Deep.QuietTactic
import Derived.BigQuiet
import Derived.Deep.OwnRows
import Derived.Deep.WholeRow
import Derived.Stop.BytesEq
import Derived.Laws.BitsAllLaws
namespace Go.Proofs.Qxb6001519aMods
open Go.RowKit

/-- A byte, as a cell. -/
def cell8 (b : UInt8) : Value := .int .u8 (Int.ofNat b.toNat)
/-- An array of twenty bytes, as cells. -/
def ar (xs : List UInt8) : Array Value := (xs.map cell8).toArray

theorem size_ar (xs : List UInt8) : (ar xs).size = xs.length := by simp [ar]
theorem get_ar (xs : List UInt8) (i : Nat) (h : i < xs.length) : (ar xs)[i]? = some (.int .u8 ((xs.getD i 0).toNat : Int)) := by
  simp [ar, cell8, h, List.getD]

/-- How far two IDs are apart. -/
def dist (a b : List UInt8) : List UInt8 := (List.range 20).map fun j => a.getD j 0 ^^^ b.getD j 0
theorem dist_len (a b : List UInt8) : (dist a b).length = 20 := by simp [dist]
def zeros : List UInt8 := List.replicate 20 0
theorem zeros_len : zeros.length = 20 := by simp [zeros]

theorem info22 : (Trym.prog.info? 22).map (·.size) = some 20 := by kernel_rfl
theorem info23 : (Trym.prog.info? 23).map (·.size) = some 20 := by kernel_rfl
theorem info24 : (Trym.prog.info? 24).map (·.size) = some 20 := by kernel_rfl

def Blk (w : World) (g : Nat) (t : TypeId) (xs : List UInt8) : Prop := w.heap[g]? = some (.cells (ar xs) t (0, 0))

theorem Blk.row {w : World} {g : Nat} {t : TypeId} {xs : List UInt8} (h : Blk w g t xs) (hl : xs.length = 20) : w.rowIs g t 20 (fun j => .int .u8 ((xs.getD j 0).toNat : Int)) :=
  ⟨ar xs, h, by rw [size_ar, hl], fun i hi => get_ar xs i (by omega)⟩

theorem Blk.ofRow {w : World} {g : Nat} {t : TypeId} {xs : List UInt8} (h : w.rowIs g t 20 (fun j => .int .u8 ((xs.getD j 0).toNat : Int))) (hl : xs.length = 20) : Blk w g t xs := by
  obtain ⟨c, hc, hs, he⟩ := h
  have : c = ar xs := by
    apply Array.ext_getElem?
    intro i
    by_cases hi : i < 20
    · rw [he i hi, get_ar xs i (by omega)]
    · rw [Array.getElem?_eq_none (by omega), Array.getElem?_eq_none (by rw [size_ar]; omega)]
  rw [Blk, hc, this]

theorem xor_u8 (x y : UInt8) : bits .xor .u8 (x.toNat : Int) (y.toNat : Int) = ((x ^^^ y).toNat : Int) := by
  rw [u8_xor_nat _ _ (UInt8.toNat_lt x) (UInt8.toNat_lt y), UInt8.toNat_xor]

theorem Blk.cell {w : World} {g : Nat} {t : TypeId} {xs : List UInt8} (h : Blk w g t xs) (hl : xs.length = 20) (i : Nat) (hi : i < 20) : w.cell? ⟨g, i, none⟩ = some (.int .u8 ((xs.getD i 0).toNat : Int)) := (h.row hl).cell hi
theorem Blk.lt {w : World} {g : Nat} {t : TypeId} {xs : List UInt8} (h : Blk w g t xs) : g < w.heap.size := lt_of_block h
theorem Blk.below {w w' : World} {g : Nat} {t : TypeId} {xs : List UInt8} {B : Nat} (h : Blk w g t xs) (hb : Below B w w') (hg : g < B) : Blk w' g t xs := by
  unfold Blk; rw [hb.block g hg]; exact h
theorem Blk.new (w : World) (t : TypeId) (xs : List UInt8) : Blk (w.alloc (.cells (ar xs) t)) w.heap.size t xs := heap_alloc_new _ _
theorem Blk.alloc {w : World} {g : Nat} {t : TypeId} {xs : List UInt8} (h : Blk w g t xs) (o : Obj) : Blk (w.alloc o) g t xs := by
  unfold Blk; rw [Below.heap_alloc _ _ _ h.lt]; exact h
theorem Blk.set {w : World} {g : Nat} {t : TypeId} {xs : List UInt8} (h : Blk w g t xs) {p : Addr} (hp : g ≠ p.block) (v : Value) : Blk (w.setCell p v) g t xs := by
  unfold Blk; rw [Below.heap_setCell _ _ _ _ hp]; exact h

def mixd (a b : List UInt8) (k : Nat) : List UInt8 := (List.range 20).map fun j => if j < k then a.getD j 0 ^^^ b.getD j 0 else 0
theorem mixd_len (a b : List UInt8) (k : Nat) : (mixd a b k).length = 20 := by simp [mixd]
theorem mixd_zero (a b : List UInt8) : mixd a b 0 = zeros := by
  apply List.ext_getElem?
  intro i
  unfold mixd zeros
  rw [List.getElem?_replicate]
  by_cases h : i < 20
  · rw [if_pos h]; simp [h]
  · rw [if_neg h]; simp [h]
theorem mixd_full (a b : List UInt8) : mixd a b 20 = dist a b := by
  apply List.ext_getElem?
  intro i
  by_cases h : i < 20 <;> simp [mixd, dist, h]
theorem mixd_get (a b : List UInt8) (k j : Nat) (hj : j < 20) : (mixd a b k).getD j 0 = if j < k then a.getD j 0 ^^^ b.getD j 0 else 0 := by
  simp [mixd, List.getD, hj]

theorem mixd_step {w : World} {g : Nat} {a b : List UInt8} {k : Nat} (h : Blk w g 24 (mixd a b k)) :
    Blk (w.setCell ⟨g, k, none⟩ (.int .u8 ((a.getD k 0 ^^^ b.getD k 0).toNat : Int))) g 24 (mixd a b (k + 1)) := by
  refine Blk.ofRow (((h.row (mixd_len _ _ _)).set k _).congr fun i hi => ?_) (mixd_len _ _ _)
  rw [mixd_get _ _ _ _ hi, mixd_get _ _ _ _ hi]
  by_cases e : i = k
  · subst e; simp
  · have : (i < k + 1) = (i < k) := by simp; omega
    simp [e, this]

/-- A store of a whole array into a block of its own. -/
theorem wpList_store_row {P : Program} {ops : Array Oper} {rest : List Oper} {o : Oper} {a : Act} {w : World} {Q : Exit → Act → World → Prop} (hgd : o.guard = none) (ty : TypeId) (x y : Operand) (ho : o.op = .store ty x y)
    (g : Nat) (hx : a.eval x = .pointer (some ⟨g, 0, none⟩)) (cells : Array Value) (hy : a.eval y = .agg cells) (t : TypeId) (old : Array Value) (hg : w.heap[g]? = some (.cells old t (0, 0)))
    (hi : (P.info? ty).map (·.size) = some cells.size) (hs : old.size = cells.size) (h1 : cells.all (·.oneCell') = true)
    (h : wpList P ops Q rest (a.put o.dst undef) (w.setRow g cells)) : wpList P ops Q (o :: rest) a w :=
  wpList_plain hgd fun _ hK => by
    unfold Oper.wp execOp
    simp only [ho, hx, hy, Instr.storeAt, Instr.sureAddr, Sem.run_bind, Sem.run_pure, Result.andThen_ok, run_storeVar_row w g t ty old cells hg hi hs h1]
    exact hK _ _ h

theorem one_ar (xs : List UInt8) : (ar xs).all (·.oneCell') = true := by
  rw [Array.all_eq_true_iff_forall_mem]
  intro v hv
  simp only [ar, List.mem_toArray, List.mem_map] at hv
  obtain ⟨x, _, rfl⟩ := hv
  rfl

theorem Blk.setRow {w : World} {g : Nat} {t : TypeId} {xs ys : List UInt8} (h : Blk w g t xs) : Blk (w.setRow g (ar ys)) g t ys := setRow_heap w g (ar xs) (ar ys) t _ h
theorem Below.setRow {B : Nat} {w W : World} (h : Below B w W) {g : Nat} (hg : B ≤ g) (c : Array Value) : Below B w (W.setRow g c) :=
  h.trans ⟨rfl, rfl, rfl, by simp, fun k hk => setRow_other W g k c (by omega)⟩
theorem Blk.setRowOther {w : World} {g g' : Nat} {t : TypeId} {xs : List UInt8} (h : Blk w g t xs) (hne : g ≠ g') (c : Array Value) : Blk (w.setRow g' c) g t xs := by
  unfold Blk; rw [setRow_other w g' g c hne]; exact h

theorem zero_ar : #[Value.int IntKind.u8 0, Value.int IntKind.u8 0, Value.int IntKind.u8 0, Value.int IntKind.u8 0, Value.int IntKind.u8 0, Value.int IntKind.u8 0, Value.int IntKind.u8 0, Value.int IntKind.u8 0, Value.int IntKind.u8 0, Value.int IntKind.u8 0, Value.int IntKind.u8 0, Value.int IntKind.u8 0, Value.int IntKind.u8 0, Value.int IntKind.u8 0, Value.int IntKind.u8 0, Value.int IntKind.u8 0, Value.int IntKind.u8 0, Value.int IntKind.u8 0, Value.int IntKind.u8 0, Value.int IntKind.u8 0] = ar zeros := by
  rfl

set_option maxRecDepth 100000 in
set_option maxHeartbeats 400000 in
theorem dist_any (w : World) (a b : List UInt8) (ha : a.length = 20) (hb : b.length = 20) :
    Calls Trym.prog 6 #[.agg (ar a), .agg (ar b)] w fun e w' => e = .returned (.agg (ar (dist a b))) ∧ Below w.heap.size w w' := by
  go_enter Trym.func6, Trym.ntmps6
  go_wp2_with fail
  rw [zero_ar]
  have f0 := (((Blk.new w 23 a).alloc (.cells (ar b) 23)).alloc (.cells (ar zeros) 24)).alloc (.cells (ar zeros) 24)
  have f1 := ((Blk.new (w.alloc (.cells (ar a) 23)) 23 b).alloc (.cells (ar zeros) 24)).alloc (.cells (ar zeros) 24)
  have f2 := (Blk.new ((w.alloc (.cells (ar a) 23)).alloc (.cells (ar b) 23)) 24 zeros).alloc (.cells (ar zeros) 24)
  have f3 := Blk.new (((w.alloc (.cells (ar a) 23)).alloc (.cells (ar b) 23)).alloc (.cells (ar zeros) 24)) 24 zeros
  have bel : Below w.heap.size w ((((w.alloc (.cells (ar a) 23)).alloc (.cells (ar b) 23)).alloc (.cells (ar zeros) 24)).alloc (.cells (ar zeros) 24)) :=
    ((((Below.refl _ _).alloc (Nat.le_refl _) _).alloc (by simp) _).alloc (by simp; omega) _).alloc (by simp; omega) _
  have sz : ∀ (x : World) (o : Obj), (x.alloc o).heap.size = x.heap.size + 1 := fun x o => by simp
  simp only [sz] at f0 f1 f2 f3
  clear sz
  generalize (((w.alloc (.cells (ar a) 23)).alloc (.cells (ar b) 23)).alloc (.cells (ar zeros) 24)).alloc (.cells (ar zeros) 24) = W at *
  rw [← mixd_zero a b] at f3
  go_loopw [7] (fun i wr => ∃ k : Nat, k ≤ 20 ∧ i = .int .i64 k ∧ Blk wr w.heap.size 23 a ∧ Blk wr (w.heap.size + 1) 23 b ∧ Blk wr (w.heap.size + 1 + 1) 24 zeros ∧ Blk wr (w.heap.size + 1 + 1 + 1) 24 (mixd a b k) ∧ Below w.heap.size w wr) (fun i _ => 20 - (intOf i).toNat)
  case atStart => exact ⟨0, by omega, rfl, f0, f1, f2, f3, bel⟩
  case round =>
    clear f0 f1 f2 f3 bel
    obtain ⟨k, hk, rfl, f0, f1, f2, f3, bel⟩ := hrel
    by_cases hlt : k < 20
    · have c0 := f0.cell ha k hlt
      have c1 := f1.cell hb k hlt
      have c3 := f3.cell (mixd_len _ _ _) k hlt
      have z3 := (f3.row (mixd_len _ _ _)).frozen k
      have R3 := mixd_step f3
      have R0 := f0.set (p := ⟨w.heap.size + 1 + 1 + 1, k, none⟩) (by simp; omega) (.int .u8 ((a.getD k 0 ^^^ b.getD k 0).toNat : Int))
      have R1 := f1.set (p := ⟨w.heap.size + 1 + 1 + 1, k, none⟩) (by simp) (.int .u8 ((a.getD k 0 ^^^ b.getD k 0).toNat : Int))
      have R2 := f2.set (p := ⟨w.heap.size + 1 + 1 + 1, k, none⟩) (by simp) (.int .u8 ((a.getD k 0 ^^^ b.getD k 0).toNat : Int))
      have RB := bel.setCell (p := ⟨w.heap.size + 1 + 1 + 1, k, none⟩) (by simp; omega) (.int .u8 ((a.getD k 0 ^^^ b.getD k 0).toNat : Int))
      have hx := xor_u8 (a.getD k 0) (b.getD k 0)
      clear f0 f1 f2 f3 bel
      generalize a.getD k 0 ^^^ b.getD k 0 = z at *
      generalize a.getD k 0 = x at *
      generalize b.getD k 0 = y at *
      generalize (mixd a b k).getD k 0 = u at *
      go_wp2_with fail
      go_region
      all_goals go_wp2_with fail
      all_goals go_roundw
      all_goals first | exact ⟨k + 1, by omega, by go_num, R0, R1, R2, R3, RB.drew⟩ | (simp [intOf]; omega)
    · have e : k = 20 := by omega
      subst e
      rw [mixd_full] at f3
      go_wp2_with (first | (refine wpList_load_row rfl 24 _ rfl (w.heap.size + 1 + 1 + 1) rfl 24 (ar (dist a b)) (0, 0) _ f3 Trym.underlying24 rfl (by rw [size_ar, dist_len]; exact info24) ?_) | (refine wpList_store_row rfl 24 (.tmp 4) (.tmp 20) rfl (w.heap.size + 1 + 1) rfl (ar (dist a b)) rfl 24 (ar zeros) f2 (by rw [size_ar, dist_len]; exact info24) (by rw [size_ar, size_ar, dist_len, zeros_len]) (one_ar _) ?_))
      have f4 := f2.setRow (ys := dist a b)
      have b4 := Below.setRow bel (g := w.heap.size + 1 + 1) (by omega) (ar (dist a b))
      refine bodyPost_ret (v := .agg (ar (dist a b))) (results_cell_row Trym.results6 _ _ (w.heap.size + 1 + 1) 24 (ar (dist a b)) (0, 0) _ rfl f4 Trym.underlying24 rfl (by rw [size_ar, dist_len]; exact info24)) rfl ⟨rfl, b4⟩
end Go.Proofs.Qxb6001519aMods
