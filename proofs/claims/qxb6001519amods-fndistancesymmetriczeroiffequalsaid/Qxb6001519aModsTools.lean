import Derived.Test.Qxb6001519aModsDist
namespace Go.Proofs.Qxb6001519aMods
open Go.RowKit

section
variable {P : Program}

/-- A store of a whole array into the block that was made last. -/
theorem wpList_store_new {ops : Array Oper} {rest : List Oper} {o : Oper} {a : Act} {Q : Exit → Act → World → Prop} (hgd : o.guard = none) (ty : TypeId) (x y : Operand) (ho : o.op = .store ty x y)
    (g : Nat) (hx : a.eval x = .pointer (some ⟨g, 0, none⟩)) (cells : Array Value) (hy : a.eval y = .agg cells) (w : World) (t : TypeId) (old : Array Value) (hg : g = w.heap.size)
    (hi : (P.info? ty).map (·.size) = some cells.size) (hs : old.size = cells.size) (h1 : cells.all (·.oneCell') = true)
    (h : wpList P ops Q rest (a.put o.dst undef) (w.alloc (.cells cells t))) : wpList P ops Q (o :: rest) a (w.alloc (.cells old t)) := by
  subst hg
  refine wpList_store_row hgd ty x y ho _ hx cells hy t old (heap_alloc_new w _) hi hs h1 ?_
  rw [World.setRow_alloc_new]; exact h

theorem quiet_of_run {C : World → Prop} {o : Oper} {a : Act} {K : Act → Prop} (v : Value) (h : ∀ w, C w → (execOp a.eval o).run P w = .ok (.value v) w) (hK : K (a.put o.dst v)) : o.quiet P a C K :=
  ⟨v, fun w hw => by unfold Oper.quietAt; rw [h w hw]; exact ⟨rfl, rfl⟩, hK⟩
theorem quiet_of_call {C : World → Prop} {o : Oper} {a : Act} {K : Act → Prop} (f : FuncId) (args : Array Value) (v : Value) (h : ∀ w, C w → (execOp a.eval o).run P w = .ok (.enter f args) w)
    (hc : ∀ w, C w → Calls P f args w (fun e w' => e = .returned v ∧ C w')) (hK : K (a.put o.dst v)) : o.quiet P a C K :=
  ⟨v, fun w hw => by unfold Oper.quietAt; rw [h w hw]; exact ⟨rfl, hc w hw⟩, hK⟩

/-- One operation of a quiet region that bears no guard. -/
theorem wpQuiet_one {ops : Array Oper} {C : World → Prop} {Q : Act → Prop} {a : Act} {o : Oper} {rest : List Oper} (hg : o.guard = none)
    (h : o.quiet P a C (wpQuiet P ops C Q rest)) : wpQuiet P ops C Q (o :: rest) a := by
  show if Region.wanted o (yielded ops a.tmps) then _ else _
  rw [if_pos (by simp [Region.wanted, hg])]
  exact h
end

theorem run_load_blk {w : World} {g : Nat} {t ty : TypeId} {xs : List UInt8} {e : TypeId} (h : Blk w g t xs) (hl : xs.length = 20) (hu : Trym.prog.underlying ty = some (.array 20 e)) (hi : (Trym.prog.info? ty).map (·.size) = some 20) :
    (loadVar ty ⟨g, 0, none⟩).run Trym.prog w = .ok (.agg (ar xs)) w :=
  run_loadVar_row w g t ty (ar xs) (0, 0) _ h hu rfl (by rw [size_ar, hl]; exact hi)

theorem exec_load_blk {o : Oper} {a : Act} {w : World} {g : Nat} {t : TypeId} {xs : List UInt8} {e : TypeId} (ty : TypeId) (x : Operand) (ho : o.op = .load ty x) (hx : a.eval x = .pointer (some ⟨g, 0, none⟩))
    (h : Blk w g t xs) (hl : xs.length = 20) (hu : Trym.prog.underlying ty = some (.array 20 e)) (hi : (Trym.prog.info? ty).map (·.size) = some 20) :
    (execOp a.eval o).run Trym.prog w = .ok (.value (.agg (ar xs))) w := by
  unfold execOp
  simp only [ho, hx, Instr.loadAt, Instr.sureAddr, Sem.run_bind, Sem.run_pure, Result.andThen_ok, run_load_blk h hl hu hi]

theorem wpList_load_blk {ops : Array Oper} {rest : List Oper} {o : Oper} {a : Act} {w : World} {Q : Exit → Act → World → Prop} (hgd : o.guard = none) (ty : TypeId) (x : Operand) (ho : o.op = .load ty x)
    {g : Nat} (hx : a.eval x = .pointer (some ⟨g, 0, none⟩)) {t : TypeId} {xs : List UInt8} (h : Blk w g t xs) (hl : xs.length = 20) {e : TypeId} (hu : Trym.prog.underlying ty = some (.array 20 e)) (hi : (Trym.prog.info? ty).map (·.size) = some 20)
    (hK : wpList Trym.prog ops Q rest (a.put o.dst (.agg (ar xs))) w) : wpList Trym.prog ops Q (o :: rest) a w :=
  wpList_load_row hgd ty x ho g hx t (ar xs) (0, 0) _ h hu rfl (by rw [size_ar, hl]; exact hi) hK

theorem size5 (w : World) : (sizeOf 5).run Trym.prog w = .ok 1 w := by
  have h : (Trym.prog.info? 5).map (·.size) = some 1 := by kernel_rfl
  cases hq : Trym.prog.info? 5 with
  | none => simp [hq] at h
  | some i =>
    have : i.size = 1 := by simpa [hq] using h
    simp [sizeOf, typeInfo, hq, this]

theorem eq_in {t : TypeId} (d : Nat) (w : World) (xs ys : List UInt8) (hx : xs.length = 20) (hy : ys.length = 20) (hu : Trym.prog.underlying t = some (.array 20 5)) :
    (Op.equalIn (d + 2) t (.agg (ar xs)) (.agg (ar ys))).run Trym.prog w = .ok (xs == ys) w :=
  run_equalIn_bytes w d t 5 20 hu Trym.underlying5 size5 xs ys hx hy

theorem eql_ar {t : TypeId} (w : World) (xs ys : List UInt8) (hx : xs.length = 20) (hy : ys.length = 20) (hu : Trym.prog.underlying t = some (.array 20 5)) :
    (binOp .eql t (.agg (ar xs)) (.agg (ar ys))).run Trym.prog w = .ok (.bool (xs == ys)) w := by
  rw [run_eql_struct, eq_in 9998 w xs ys hx hy hu]; rfl
theorem neq_ar {t : TypeId} (w : World) (xs ys : List UInt8) (hx : xs.length = 20) (hy : ys.length = 20) (hu : Trym.prog.underlying t = some (.array 20 5)) :
    (binOp .neq t (.agg (ar xs)) (.agg (ar ys))).run Trym.prog w = .ok (.bool (!(xs == ys))) w := by
  rw [run_neq_struct, eq_in 9998 w xs ys hx hy hu]; rfl

theorem exec_eql {o : Oper} {a : Act} {w : World} {t t' : TypeId} {xs ys : List UInt8} (x y : Operand) (ho : o.op = .binOp .eql t x y t') (hx : a.eval x = .agg (ar xs)) (hy : a.eval y = .agg (ar ys))
    (hl : xs.length = 20) (hl' : ys.length = 20) (hu : Trym.prog.underlying t = some (.array 20 5)) (hm : Trym.prog.eqGuardType Trym.prog.depth t = false) :
    (execOp a.eval o).run Trym.prog w = .ok (.value (.bool (xs == ys))) w := by
  unfold execOp
  simp only [ho, hx, hy, Sem.run_bind, Sem.run_pure, Result.andThen_ok, run_eqGuard_agg w .eql t x y (ar xs) (ar ys) hm, eql_ar w xs ys hl hl' hu]

theorem exec_neq_bool {o : Oper} {a : Act} {w : World} {t' : TypeId} {p q : Bool} (x y : Operand) (ho : o.op = .binOp .neq 4 x y t') (hx : a.eval x = .bool p) (hy : a.eval y = .bool q) :
    (execOp a.eval o).run Trym.prog w = .ok (.value (.bool (!(p == q)))) w := by
  unfold execOp
  simp only [ho, hx, hy]
  go_simp

theorem exec_assign {o : Oper} {a : Act} {w : World} {v : Value} (x : Operand) (ho : o.op = .assign x) (hx : a.eval x = v) :
    (execOp a.eval o).run Trym.prog w = .ok (.value v) w := by
  unfold execOp
  simp only [ho, hx, Sem.run_pure]

theorem exec_call {o : Oper} {a : Act} {w : World} {ts : Array TypeId} {u v : Value} (x y : Operand) (ho : o.op = .call { callee := .value (.func 6), args := #[x, y], argTypes := ts }) (hx : a.eval x = u) (hy : a.eval y = v) :
    (execOp a.eval o).run Trym.prog w = .ok (.enter 6 #[u, v]) w := by
  have hf : a.eval (.func 6) = .func (.func 6) #[] #[] := rfl
  unfold execOp
  simp only [ho]
  simp [resolve, invoke, Deferred.ofValue, hf, hx, hy]

/-! ### The plain laws of the distance -/
theorem dist_get (a b : List UInt8) (j : Nat) (hj : j < 20) : (dist a b)[j]? = some (a.getD j 0 ^^^ b.getD j 0) := by simp [dist, hj]

theorem ext20 {a b : List UInt8} (ha : a.length = 20) (hb : b.length = 20) (h : ∀ j, j < 20 → a.getD j 0 = b.getD j 0) : a = b := by
  apply List.ext_getElem?
  intro j
  by_cases hj : j < 20
  · have := h j hj
    rw [List.getD_eq_getElem?_getD, List.getD_eq_getElem?_getD, List.getElem?_eq_getElem (by omega), List.getElem?_eq_getElem (by omega)] at this
    rw [List.getElem?_eq_getElem (by omega), List.getElem?_eq_getElem (by omega)]
    simpa using this
  · rw [List.getElem?_eq_none (by omega), List.getElem?_eq_none (by omega)]

theorem dist_comm (a b : List UInt8) : dist a b = dist b a := by
  simp [dist, UInt8.xor_comm]

theorem dist_self (a : List UInt8) : dist a a = zeros := by
  apply ext20 (dist_len _ _) zeros_len
  intro j hj
  have hz : zeros.getD j 0 = 0 := by rw [List.getD_eq_getElem?_getD, zeros, List.getElem?_replicate, if_pos hj]; rfl
  rw [hz, List.getD_eq_getElem?_getD, dist_get _ _ _ hj]
  simp

theorem dist_inj (a b c : List UInt8) (hb : b.length = 20) (hc : c.length = 20) : (dist a b == dist a c) = (b == c) := by
  rw [Bool.eq_iff_iff, beq_iff_eq, beq_iff_eq]
  constructor
  · intro h
    apply ext20 hb hc
    intro j hj
    have h1 := dist_get a b j hj
    have h2 := dist_get a c j hj
    rw [h, h2] at h1
    have h3 : a.getD j 0 ^^^ c.getD j 0 = a.getD j 0 ^^^ b.getD j 0 := by simpa using h1
    exact ((UInt8.xor_right_inj _).1 h3).symm
  · rintro rfl; rfl

theorem dist_zero (a b : List UInt8) (ha : a.length = 20) (hb : b.length = 20) : (dist a b == zeros) = (a == b) := by
  rw [← dist_self a, dist_inj a b a hb ha]
  rw [Bool.eq_iff_iff, beq_iff_eq, beq_iff_eq]
  exact eq_comm
end Go.Proofs.Qxb6001519aMods
