import Derived.Test.Qxb6000507aModsHeap
import Derived.Deep.AppendLies
namespace Go.Proofs.Qxb6000507aMods
open Go.RowKit

def upS (S : Nat → Nat) (l s : Nat) : Nat → Nat := fun k => if k = l then s else S k
def upV (V : Nat → Nat → Int) (l i : Nat) (f : Int) : Nat → Nat → Int := fun k j => if k = l ∧ j = i then f else V k j

theorem own_ne_block {w : World} {base : Nat} {e e' : TypeId} {size : Nat} {v : Value} {n b : Nat} {xs : List Value} {c : Array Value} {fr : Nat × Nat}
    (h : w.ownsRow base e size v n xs) (hb : w.heap[b]? = some (.cells c e' fr)) (hne : e ≠ e') : v.ownBlock ≠ some b := by
  rcases h.2 with ⟨rfl, _⟩ | ⟨g, cap, cur, rfl, _, hg, _⟩
  · simp [Value.ownBlock]
  · intro hh
    simp [Value.ownBlock] at hh
    subst hh
    rw [hg] at hb
    simp at hb
    exact hne hb.2.1

theorem own_ne {w : World} {base base' : Nat} {e e' : TypeId} {size size' : Nat} {v v' : Value} {n n' : Nat} {xs xs' : List Value}
    (h : w.ownsRow base e size v n xs) (h' : w.ownsRow base' e' size' v' n' xs') (hne : e ≠ e') : v.ownBlock = none ∨ v.ownBlock ≠ v'.ownBlock := by
  rcases h'.2 with ⟨rfl, _⟩ | ⟨g, cap, cur, rfl, _, hg, _⟩
  · cases hv : v.ownBlock <;> simp [Value.ownBlock]
  · exact .inr (own_ne_block h hg hne)

theorem own_lo {w : World} {base : Nat} {e : TypeId} {size : Nat} {v : Value} {n b : Nat} {xs : List Value}
    (h : w.ownsRow base e size v n xs) (hb : b < base) : v.ownBlock ≠ some b := fun hh => by
  have := h.lt b hh; omega

/-- The index, the block of the transaction that is added, and what lay below x's block as it was. -/
structure St (w0 w : World) (xb ab : Nat) (p q : Value) (f : Int) (m : Nat) (S : Nat → Nat) (V : Nat → Nat → Int) (lv tv : Value) (xs : List Value) (G C : Nat → Nat) : Prop where
  ix : Ix w xb m S V lv tv xs G C
  ha : w.heap[ab]? = some (.cells #[p, .int .i64 f, q] 38 (0, 0))
  bel : Below xb w0 w

section
variable {w0 w W w1 : World} {xb ab : Nat} {p q : Value} {f : Int} {m : Nat} {S : Nat → Nat} {V : Nat → Nat → Int} {lv tv : Value} {xs : List Value} {G C : Nat → Nat}

theorem Ix.kept (h : Ix w xb m S V lv tv xs G C) (hg : w.grownBy W none) : Ix W xb m S V lv tv xs G C := by
  have hn : ∀ v : Value, v.ownBlock = none ∨ v.ownBlock ≠ none := fun v => by cases v.ownBlock <;> simp
  exact ⟨by rw [hg.block xb (lt_of_block h.hx) (by simp)]; exact h.hx, h.hl.kept hg (hn _), h.hf, h.ht.kept hg (hn _), fun l hl => (h.hr l hl).kept hg (hn _), h.hd⟩

theorem St.kept (h : St w0 w xb ab p q f m S V lv tv xs G C) (hg : w.grownBy W none) : St w0 W xb ab p q f m S V lv tv xs G C :=
  ⟨h.ix.kept hg, by rw [hg.block ab (lt_of_block h.ha) (by simp)]; exact h.ha, h.bel.grown hg (by have := lt_of_block h.ix.hx; omega) (by simp)⟩

theorem heap_x0 {w : World} {a b u : Value} {t : TypeId} (h : w.heap[xb]? = some (.cells #[a, b] t (0, 0))) : (w.setCell ⟨xb, 0, none⟩ u).heap[xb]? = some (.cells #[u, b] t (0, 0)) := by
  rw [heap_setCell_same w xb 0 _ t u h]; rfl
theorem heap_x1 {w : World} {a b u : Value} {t : TypeId} (h : w.heap[xb]? = some (.cells #[a, b] t (0, 0))) : (w.setCell ⟨xb, 1, none⟩ u).heap[xb]? = some (.cells #[a, u] t (0, 0)) := by
  rw [heap_setCell_same w xb 1 _ t u h]; rfl

/-- 'x.list = append(x.list, a)'. -/
theorem St.list (h : St w0 W xb ab p q f m S V lv tv xs G C) {g cap : Nat} (hla : lv.ownBlock ≠ some ab)
    (hown : w1.ownsRow (xb + 1) 38 3 (.slice (some ⟨g, 0, none⟩) (S 0 + 1) cap) (S 0 + 1) (xs ++ [p, .int .i64 f, q])) (hgrow : W.grownBy w1 lv.ownBlock) :
    St w0 (w1.setCell ⟨xb, 0, none⟩ (.slice (some ⟨g, 0, none⟩) (S 0 + 1) cap)) xb ab p q f m (upS S 0 (S 0 + 1)) (upV V 0 (S 0) f) (.slice (some ⟨g, 0, none⟩) (S 0 + 1) cap) tv (xs ++ [p, .int .i64 f, q]) G C := by
  obtain ⟨ix, ha, bel⟩ := h
  have hxl := lt_of_block ix.hx
  have hx1 : w1.heap[xb]? = some (.cells #[lv, tv] 35 (0, 0)) := by
    rw [hgrow.block xb hxl (fun e => own_lo ix.hl (Nat.lt_succ_self xb) e.symm)]; exact ix.hx
  have hlen : xs.length = S 0 * 3 := ix.hl.1
  have ks : ∀ {e size v n ys}, w1.ownsRow (xb + 1) e size v n ys → (w1.setCell ⟨xb, 0, none⟩ (.slice (some ⟨g, 0, none⟩) (S 0 + 1) cap)).ownsRow (xb + 1) e size v n ys :=
    fun hh => ownsRow_setCell_other hh (own_lo hh (Nat.lt_succ_self xb)) _
  refine ⟨⟨heap_x0 hx1, by simpa [upS] using ks hown, ?_, ?_, ?_, ix.hd⟩, ?_, ?_⟩
  · intro i hi
    simp only [upS, if_true] at hi
    by_cases hlt : i < S 0
    · have := ix.hf i hlt
      rw [List.getElem?_append_left (by omega), this]
      simp [upV, Nat.ne_of_lt hlt]
    · have : i = S 0 := by omega
      subst this
      rw [List.getElem?_append_right (by omega), hlen]
      simp [upV]
  · simpa [upS] using ks (ix.ht.kept hgrow (own_ne ix.ht ix.hl (by decide)))
  · intro l hl
    simpa [upS, upV] using ks ((ix.hr l hl).kept hgrow (own_ne (ix.hr l hl) ix.hl (by decide)))
  · have hne : ab ≠ xb := fun e => by rw [e, ix.hx] at ha; simp at ha
    rw [Below.heap_setCell _ _ _ _ hne, hgrow.block ab (lt_of_block ha) (fun e => hla e.symm)]; exact ha
  · exact (bel.grown hgrow (by omega) (fun k hk => by have := ix.hl.lt k hk; omega)).setCell (Nat.le_refl _) _

/-- 'x.least = append(x.least, []int64{least})': row is the new level's row, laid just before. -/
theorem St.level (h : St w0 W xb ab p q f m S V lv tv xs G C) {g cap r : Nat} {v : Int} (hr : W.heap[r]? = some (.cells #[.int .i64 v] 2 (0, 0))) (hrb : xb < r) (hrg : ∀ l, l < m → G l ≠ r)
    (hown : w1.ownsRow (xb + 1) 22 1 (.slice (some ⟨g, 0, none⟩) (m + 1) cap) (m + 1) (((List.range m).map fun l => .slice (some ⟨G l, 0, none⟩) (S (l + 1)) (C l)) ++ [.slice (some ⟨r, 0, none⟩) 1 1])) (hgrow : W.grownBy w1 tv.ownBlock) :
    St w0 (w1.setCell ⟨xb, 1, none⟩ (.slice (some ⟨g, 0, none⟩) (m + 1) cap)) xb ab p q f (m + 1) (upS S (m + 1) 1) (upV V (m + 1) 0 v) lv (.slice (some ⟨g, 0, none⟩) (m + 1) cap) xs (upS G m r) (upS C m 1) := by
  obtain ⟨ix, ha, bel⟩ := h
  have hxl := lt_of_block ix.hx
  have hx1 : w1.heap[xb]? = some (.cells #[lv, tv] 35 (0, 0)) := by
    rw [hgrow.block xb hxl (fun e => own_lo ix.ht (Nat.lt_succ_self xb) e.symm)]; exact ix.hx
  have ks : ∀ {e size v n ys}, w1.ownsRow (xb + 1) e size v n ys → (w1.setCell ⟨xb, 1, none⟩ (.slice (some ⟨g, 0, none⟩) (m + 1) cap)).ownsRow (xb + 1) e size v n ys :=
    fun hh => ownsRow_setCell_other hh (own_lo hh (Nat.lt_succ_self xb)) _
  have hne1 : ∀ l, l < m → l ≠ m := fun l hl => by omega
  refine ⟨⟨heap_x1 hx1, ?_, ?_, ?_, ?_, ?_⟩, ?_, ?_⟩
  · simpa [upS] using ks (ix.hl.kept hgrow (own_ne ix.hl ix.ht (by decide)))
  · intro i hi
    have := ix.hf i (by simpa [upS] using hi)
    simpa [upV] using this
  · have hb := ks hown
    have e : ((List.range (m + 1)).map fun l => Value.slice (some ⟨upS G m r l, 0, none⟩) (upS S (m + 1) 1 (l + 1)) (upS C m 1 l)) =
        (((List.range m).map fun l => Value.slice (some ⟨G l, 0, none⟩) (S (l + 1)) (C l)) ++ [.slice (some ⟨r, 0, none⟩) 1 1]) := by
      rw [List.range_succ, List.map_append]
      congr 1
      · refine List.map_congr_left fun l hl => ?_
        have := List.mem_range.1 hl
        simp [upS, Nat.ne_of_lt this]
      · simp [upS]
    rw [e]; exact hb
  · intro l hl
    by_cases hlt : l < m
    · have := ks ((ix.hr l hlt).kept hgrow (own_ne (ix.hr l hlt) ix.ht (by decide)))
      simpa [upS, upV, Nat.ne_of_lt hlt] using this
    · have : l = m := by omega
      subst this
      have hr1 : w1.heap[r]? = some (.cells #[.int .i64 v] 2 (0, 0)) := by
        rw [hgrow.block r (lt_of_block hr) (fun e => own_ne_block ix.ht hr (by decide) e.symm)]; exact hr
      have : w1.ownsRow (xb + 1) 2 1 (.slice (some ⟨r, 0, none⟩) 1 1) 1 [.int .i64 v] :=
        ⟨by simp, .inr ⟨r, 1, _, rfl, hrb, hr1, Nat.le_refl _, by decide, by simp, by simp⟩⟩
      simpa [upS, upV, List.range_succ] using ks this
  · intro l l' hl hl' hne
    simp only [upS]
    split <;> split
    · omega
    · exact fun e => hrg l' (by omega) e.symm
    · exact hrg l (by omega)
    · exact ix.hd l l' (by omega) (by omega) hne
  · have hne : ab ≠ xb := fun e => by rw [e, ix.hx] at ha; simp at ha
    rw [Below.heap_setCell _ _ _ _ hne, hgrow.block ab (lt_of_block ha) (fun e => own_ne_block ix.ht ha (by decide) e.symm)]; exact ha
  · exact (bel.grown hgrow (by omega) (fun k hk => by have := ix.ht.lt k hk; omega)).setCell (Nat.le_refl _) _

theorem map_range_set {α : Type} (k l : Nat) (F F' : Nat → α) (u : α) (hl : l < k) (he : ∀ i, i < k → i ≠ l → F' i = F i) (hu : F' l = u) : ((List.range k).map F).set l u = (List.range k).map F' := by
  apply List.ext_getElem?
  intro i
  rw [List.getElem?_set]
  by_cases hi : i < k
  · by_cases hil : l = i
    · subst hil; simp [hi, hu]
    · simp [hil, hi, he i hi (fun e => hil e.symm)]
  · have : l ≠ i := by omega
    simp [this, hi]

/-- '*up = append(*up, a.First)' at level l + 1. -/
theorem St.push (h : St w0 W xb ab p q f m S V lv tv xs G C) {g cap tb ct l : Nat} (hl : l < m) (htv : tv = .slice (some ⟨tb, 0, none⟩) m ct) (hat : G l = g ∨ g = W.heap.size)
    (hown : w1.ownsRow (xb + 1) 2 1 (.slice (some ⟨g, 0, none⟩) (S (l + 1) + 1) cap) (S (l + 1) + 1) (((List.range (S (l + 1))).map fun i => .int .i64 (V (l + 1) i)) ++ [.int .i64 f])) (hgrow : W.grownBy w1 (some (G l))) :
    St w0 (w1.setCell ⟨tb, l, none⟩ (.slice (some ⟨g, 0, none⟩) (S (l + 1) + 1) cap)) xb ab p q f m (upS S (l + 1) (S (l + 1) + 1)) (upV V (l + 1) (S (l + 1)) f) lv tv xs (upS G l g) (upS C l cap) := by
  obtain ⟨ix, ha, bel⟩ := h
  subst htv
  have hxl := lt_of_block ix.hx
  have hGb : (Value.slice (some ⟨G l, 0, none⟩) (S (l + 1)) (C l)).ownBlock = some (G l) := rfl
  have ht1 := ix.ht.kept hgrow (own_ne ix.ht (ix.hr l hl) (by decide))
  have hgl := (ix.hr l hl).lt (G l) rfl
  have htl := ix.ht.lt tb rfl
  have hg1 := hown.lt g rfl
  obtain ⟨ht2, hgr2⟩ := ht1.stored l (.slice (some ⟨g, 0, none⟩) (S (l + 1) + 1) cap)
  have ks : ∀ {e size v n ys}, e ≠ 22 → w1.ownsRow (xb + 1) e size v n ys → (w1.setCell ⟨tb, l, none⟩ (.slice (some ⟨g, 0, none⟩) (S (l + 1) + 1) cap)).ownsRow (xb + 1) e size v n ys := fun he hh => by
    refine ownsRow_setCell_other hh ?_ _
    rcases own_ne hh ht1 he with h | h
    · rw [h]; simp
    · exact h
  refine ⟨⟨?_, ?_, ?_, ?_, ?_, ?_⟩, ?_, ?_⟩
  · rw [Below.heap_setCell _ _ _ _ (fun e => by simp at e; omega), hgrow.block xb hxl (fun e => by simp at e; omega)]; exact ix.hx
  · simpa [upS] using ks (by decide) (ix.hl.kept hgrow (own_ne ix.hl (ix.hr l hl) (by decide)))
  · intro i hi
    have := ix.hf i (by simpa [upS] using hi)
    simpa [upV] using this
  · rw [map_range_set m l _ (fun k => Value.slice (some ⟨upS G l g k, 0, none⟩) (upS S (l + 1) (S (l + 1) + 1) (k + 1)) (upS C l cap k)) _ hl (fun i _ hne => by simp [upS, hne]) (by simp [upS])] at ht2
    exact ht2
  · intro k hk
    by_cases hkl : k = l
    · subst hkl
      have e : ((List.range (upS S (k + 1) (S (k + 1) + 1) (k + 1))).map fun i => Value.int .i64 (upV V (k + 1) (S (k + 1)) f (k + 1) i)) =
          (((List.range (S (k + 1))).map fun i => .int .i64 (V (k + 1) i)) ++ [.int .i64 f]) := by
        simp only [upS, if_true]
        rw [List.range_succ, List.map_append]
        congr 1
        · refine List.map_congr_left fun i hi => ?_
          have := List.mem_range.1 hi
          simp [upV, Nat.ne_of_lt this]
        · simp [upV]
      rw [e]
      simpa [upS] using ks (by decide) hown
    · have hne : G k ≠ G l := ix.hd k l hk hl hkl
      have := ks (by decide) ((ix.hr k hk).kept hgrow (.inr (by simpa [Value.ownBlock] using hne)))
      simpa [upS, upV, hkl] using this
  · intro k k' hk hk' hne
    have hfr : ∀ j, j < m → j ≠ l → g ≠ G j := fun j hj hjl => by
      rcases hat with e | e
      · rw [← e]; exact ix.hd l j hl hj (fun h => hjl h.symm)
      · have := (ix.hr j hj).lt (G j) rfl; omega
    simp only [upS]
    split <;> split
    · omega
    · rename_i h1 h2; exact hfr k' hk' h2
    · rename_i h1 h2; exact fun e => hfr k hk h1 e.symm
    · exact ix.hd k k' hk hk' hne
  · have hat' : tb ≠ ab := fun e => own_ne_block ix.ht ha (by decide) (by rw [← e]; rfl)
    have hag : some ab ≠ some (G l) := fun e => own_ne_block (ix.hr l hl) ha (by decide) e.symm
    rw [Below.heap_setCell _ _ _ _ (fun e => hat' e.symm), hgrow.block ab (lt_of_block ha) hag]; exact ha
  · exact (bel.grown hgrow (by omega) (fun k hk => by simp at hk; omega)).setCell (by simp; omega) _

/-- '(*up)[i] = ..' at level l + 1. -/
theorem St.set (h : St w0 W xb ab p q f m S V lv tv xs G C) {l i : Nat} (hl : l < m) (hi : i < S (l + 1)) (u : Int) :
    St w0 (W.setCell ⟨G l, i, none⟩ (.int .i64 u)) xb ab p q f m S (upV V (l + 1) i u) lv tv xs G C := by
  obtain ⟨ix, ha, bel⟩ := h
  have hgl := (ix.hr l hl).lt (G l) rfl
  obtain ⟨hr2, hgr2⟩ := (ix.hr l hl).stored i (.int .i64 u)
  refine ⟨⟨?_, ?_, ?_, ?_, ?_, ix.hd⟩, ?_, ?_⟩
  · rw [Below.heap_setCell _ _ _ _ (fun e => by simp at e; omega)]; exact ix.hx
  · exact ix.hl.kept hgr2 (own_ne ix.hl (ix.hr l hl) (by decide))
  · intro j hj
    have := ix.hf j hj
    simpa [upV] using this
  · exact ix.ht.kept hgr2 (own_ne ix.ht (ix.hr l hl) (by decide))
  · intro k hk
    by_cases hkl : k = l
    · subst hkl
      rw [map_range_set _ i _ (fun j => Value.int .i64 (upV V (k + 1) i u (k + 1) j)) _ hi (fun j _ hne => by simp [upV, hne]) (by simp [upV])] at hr2
      exact hr2
    · have hne : G k ≠ G l := ix.hd k l hk hl hkl
      have := (ix.hr k hk).kept hgr2 (.inr (by simpa [Value.ownBlock] using hne))
      simpa [upV, hkl] using this
  · have hag : ab ≠ G l := fun e => own_ne_block (ix.hr l hl) ha (by decide) (by rw [e]; rfl)
    rw [Below.heap_setCell _ _ _ _ hag]; exact ha
  · exact bel.setCell (by simp; omega) _
end
end Go.Proofs.Qxb6000507aMods
