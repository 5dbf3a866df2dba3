import Derived.Test.Qxb6000507aModsAdd
import Derived.Test.Qxb6000507aModsFirst
import Derived.Deep.OwnRows
import Derived.OpenShut
namespace Go.Proofs.Qxb6000507aMods
open Go.RowKit

/-- What is told of a slice of integers that came in. -/
def Came (k : IntKind) (w : World) (a : Option Addr) (len cap : Nat) (zs : List Int) : Prop :=
  (a = none ∧ len = 0 ∧ cap = 0 ∧ zs = []) ∨
  ∃ x, a = some x ∧ len ≤ cap ∧ cap ≤ maxLen ∧ zs.length = cap ∧ (∀ i, i < zs.length → w.cell? (x.add i) = some (.int k (zs.getD i 0))) ∧ ∀ n ∈ zs, (Lit.int k n).wf = true

/-- A slice value of n integers 'fs i', at the head of a block below B. -/
def Row (k : IntKind) (w : World) (B : Nat) (v : Value) (n : Nat) (fs : Nat → Int) : Prop :=
  ∃ ao cap, v = .slice ao n cap ∧ (0 < n → ∃ b, ao = some ⟨b, 0, none⟩ ∧ b < B ∧ ∀ i, i < n → w.cell? ⟨b, i, none⟩ = some (.int k (fs i)))

theorem Row.keep {k : IntKind} {w w' : World} {B : Nat} {v : Value} {n : Nat} {fs : Nat → Int} (h : Row k w B v n fs) (hb : Below B w w') : Row k w' B v n fs := by
  obtain ⟨ao, cap, e, h⟩ := h
  refine ⟨ao, cap, e, fun hn => ?_⟩
  obtain ⟨b, e, hbB, hc⟩ := h hn
  exact ⟨b, e, hbB, fun i hi => (hb.cell (p := ⟨b, i, none⟩) hbB).trans (hc i hi)⟩

theorem Row.up {k : IntKind} {w : World} {B B' : Nat} {v : Value} {n : Nat} {fs : Nat → Int} (h : Row k w B v n fs) (hb : B ≤ B') : Row k w B' v n fs := by
  obtain ⟨ao, cap, e, h⟩ := h
  refine ⟨ao, cap, e, fun hn => ?_⟩
  obtain ⟨b, e, hbB, hc⟩ := h hn
  exact ⟨b, e, by omega, hc⟩

theorem lt_of_cell {w : World} {b o : Nat} {v : Value} (h : w.cell? ⟨b, o, none⟩ = some v) : b < w.heap.size := by
  rcases Nat.lt_or_ge b w.heap.size with h' | h'
  · exact h'
  · simp [World.cell?, Array.getElem?_eq_none h'] at h

theorem info39 : (Trym.prog.info? 39).map (fun i => (i.zero, i.size, i.bytes)) = some (some (.int .u16 0), 1, 2) := by kernel_rfl
theorem info3 : (Trym.prog.info? 3).map (fun i => (i.zero, i.size, i.bytes)) = some (some (.int .i64 0), 1, 8) := by kernel_rfl

theorem cloneI_step {w : World} {B n k : Nat} {zs : List Int} (h : w.rowIs B 2 n (fun j => .int .i64 (if j < k then zs.getD j 0 else 0))) :
    (w.setCell ⟨B, k, none⟩ (.int .i64 (zs.getD k 0))).rowIs B 2 n (fun j => .int .i64 (if j < k + 1 then zs.getD j 0 else 0)) := by
  refine (h.set k _).congr fun i _ => ?_
  by_cases e : i = k
  · subst e; simp
  · have : (i < k + 1) = (i < k) := by simp; omega
    simp [e, this]

set_option maxRecDepth 100000 in
set_option maxHeartbeats 1000000 in
theorem cloneI_any (w : World) (a : Option Addr) (len cap : Nat) (zs : List Int) (h : Came .i64 w a len cap zs) (hlen : len ≤ 1048576) :
    Calls Trym.prog 7 #[.slice a len cap] w fun e w' => ∃ ao' cap', e = .returned (.slice ao' len cap') ∧ Row .i64 w' w'.heap.size (.slice ao' len cap') len (fun i => zs.getD i 0) ∧ Below w.heap.size w w' := by
  have heq := fun (wx : World) (a : Option Addr) (l c : Nat) => Lib.run_eql_slice_nil (P := Trym.prog) wx 22 2 a l c 0 0 Trym.underlying22
  rcases h with ⟨rfl, rfl, rfl, rfl⟩ | ⟨x, rfl, hlc, hm, hz, hcell, _⟩
  · go_enter Trym.func7, Trym.ntmps7
    go_wp2
    go_ret
    exact ⟨none, 0, rfl, ⟨none, 0, rfl, fun h => absurd h (by omega)⟩, Below.refl _ _⟩
  · have hmk := fun (wx : World) => run_make_row' (P := Trym.prog) 22 2 (.int .i64 0) 8 Trym.underlying22 info2 rfl .i64 .i64 len (by omega) (by omega) wx
    go_enter Trym.func7, Trym.ntmps7
    go_wp2
    have r0 := World.rowIs_made w (.int .i64 0) len 2
    have b0 : Below w.heap.size w (w.alloc (.cells (madeCells #[.int .i64 0] len) 2)) := (Below.refl _ _).alloc (Nat.le_refl _) _
    generalize w.alloc (.cells (madeCells #[.int .i64 0] len) 2) = W at *
    clear hmk heq
    go_loopw [4] (fun i wr => ∃ k : Nat, k ≤ len ∧ i = .int .i64 k ∧ wr.rowIs w.heap.size 2 len (fun j => .int .i64 (if j < k then zs.getD j 0 else 0)) ∧ Below w.heap.size w wr) (fun i _ => len - (intOf i).toNat)
    case atStart => exact ⟨0, Nat.zero_le _, rfl, by simpa using r0, b0⟩
    case round =>
      obtain ⟨k, hk, rfl, hr, hb⟩ := hrel
      clear r0 b0
      by_cases hlt : k < len
      · obtain ⟨b, off, rfl, hc⟩ := ints_at hcell (by omega)
        have hbl := lt_of_cell (hc k (by omega))
        have hck : wr.cell? ⟨b, off + k, none⟩ = some (.int .i64 (zs.getD k 0)) := (hb.cell (p := ⟨b, off + k, none⟩) hbl).trans (hc k (by omega))
        have hd := hr.cell hlt
        have hf := hr.frozen k
        have hr2 := cloneI_step hr
        have hb2 : Below w.heap.size w (wr.setCell ⟨w.heap.size, k, none⟩ (.int .i64 (zs.getD k 0))) := hb.setCell (Nat.le_refl _) _
        generalize zs.getD k 0 = z at hck hr2 hb2
        clear hcell hc hr
        go_wp2
        go_roundw
        case rel => exact ⟨k + 1, by omega, by go_num, hr2, hb2⟩
        case measure => simp [intOf]; omega
      · have e : k = len := by omega
        subst e
        go_wp2
        go_ret
        refine ⟨some ⟨w.heap.size, 0, none⟩, k, rfl, ⟨some ⟨w.heap.size, 0, none⟩, k, rfl, fun _ => ⟨w.heap.size, rfl, hr.lt, fun i hi => ?_⟩⟩, hb⟩
        rw [hr.cell hi]; simp [hi]

theorem cloneU_step {w : World} {B n k : Nat} {zs : List Int} (h : w.rowIs B 39 n (fun j => .int .u16 (if j < k then zs.getD j 0 else 0))) :
    (w.setCell ⟨B, k, none⟩ (.int .u16 (zs.getD k 0))).rowIs B 39 n (fun j => .int .u16 (if j < k + 1 then zs.getD j 0 else 0)) := by
  refine (h.set k _).congr fun i _ => ?_
  by_cases e : i = k
  · subst e; simp
  · have : (i < k + 1) = (i < k) := by simp; omega
    simp [e, this]

set_option maxRecDepth 100000 in
set_option maxHeartbeats 1000000 in
theorem cloneU_any (w : World) (a : Option Addr) (len cap : Nat) (zs : List Int) (h : Came .u16 w a len cap zs) (hlen : len ≤ 1048576) :
    Calls Trym.prog 11 #[.slice a len cap] w fun e w' => ∃ ao' cap', e = .returned (.slice ao' len cap') ∧ Row .u16 w' w'.heap.size (.slice ao' len cap') len (fun i => zs.getD i 0) ∧ Below w.heap.size w w' := by
  have heq := fun (wx : World) (a : Option Addr) (l c : Nat) => Lib.run_eql_slice_nil (P := Trym.prog) wx 29 39 a l c 0 0 Trym.underlying29
  rcases h with ⟨rfl, rfl, rfl, rfl⟩ | ⟨x, rfl, hlc, hm, hz, hcell, _⟩
  · go_enter Trym.func11, Trym.ntmps11
    go_wp2
    go_ret
    exact ⟨none, 0, rfl, ⟨none, 0, rfl, fun h => absurd h (by omega)⟩, Below.refl _ _⟩
  · have hmk := fun (wx : World) => run_make_row' (P := Trym.prog) 29 39 (.int .u16 0) 2 Trym.underlying29 info39 rfl .i64 .i64 len (by omega) (by omega) wx
    go_enter Trym.func11, Trym.ntmps11
    go_wp2
    have r0 := World.rowIs_made w (.int .u16 0) len 39
    have b0 : Below w.heap.size w (w.alloc (.cells (madeCells #[.int .u16 0] len) 39)) := (Below.refl _ _).alloc (Nat.le_refl _) _
    generalize w.alloc (.cells (madeCells #[.int .u16 0] len) 39) = W at *
    clear hmk heq
    go_loopw [4] (fun i wr => ∃ k : Nat, k ≤ len ∧ i = .int .i64 k ∧ wr.rowIs w.heap.size 39 len (fun j => .int .u16 (if j < k then zs.getD j 0 else 0)) ∧ Below w.heap.size w wr) (fun i _ => len - (intOf i).toNat)
    case atStart => exact ⟨0, Nat.zero_le _, rfl, by simpa using r0, b0⟩
    case round =>
      obtain ⟨k, hk, rfl, hr, hb⟩ := hrel
      clear r0 b0
      by_cases hlt : k < len
      · obtain ⟨b, off, rfl, hc⟩ := ints_at hcell (by omega)
        have hbl := lt_of_cell (hc k (by omega))
        have hck : wr.cell? ⟨b, off + k, none⟩ = some (.int .u16 (zs.getD k 0)) := (hb.cell (p := ⟨b, off + k, none⟩) hbl).trans (hc k (by omega))
        have hd := hr.cell hlt
        have hf := hr.frozen k
        have hr2 := cloneU_step hr
        have hb2 : Below w.heap.size w (wr.setCell ⟨w.heap.size, k, none⟩ (.int .u16 (zs.getD k 0))) := hb.setCell (Nat.le_refl _) _
        generalize zs.getD k 0 = z at hck hr2 hb2
        clear hcell hc hr
        go_wp2
        go_roundw
        case rel => exact ⟨k + 1, by omega, by go_num, hr2, hb2⟩
        case measure => simp [intOf]; omega
      · have e : k = len := by omega
        subst e
        go_wp2
        go_ret
        refine ⟨some ⟨w.heap.size, 0, none⟩, k, rfl, ⟨some ⟨w.heap.size, 0, none⟩, k, rfl, fun _ => ⟨w.heap.size, rfl, hr.lt, fun i hi => ?_⟩⟩, hb⟩
        rw [hr.cell hi]; simp [hi]
end Go.Proofs.Qxb6000507aMods
