/-
  The plain laws of the index: no Go in sight. 'fs j': the first offset of transaction j; 'n': how many there are; level l's entry i speaks of the places from i * 16^l up to (i + 1) * 16^l.
-/
namespace Go.Proofs.Qxb6000507aMods

/-- r is the first place at 'frm' or later below n whose first offset is below 'b'; n where there is none. -/
def IsFirst (fs : Nat → Int) (n frm : Nat) (b : Int) (r : Nat) : Prop :=
  (r = n ∧ ∀ j, frm ≤ j → j < n → b ≤ fs j) ∨ (frm ≤ r ∧ r < n ∧ fs r < b ∧ ∀ j, frm ≤ j → j < r → b ≤ fs j)

theorem IsFirst.unique {fs : Nat → Int} {n frm : Nat} {b : Int} {r s : Nat} (h : IsFirst fs n frm b r) (k : IsFirst fs n frm b s) : r = s := by
  rcases h with ⟨h1, h2⟩ | ⟨h1, h2, h3, h4⟩ <;> rcases k with ⟨k1, k2⟩ | ⟨k1, k2, k3, k4⟩
  · omega
  · have := h2 s k1 k2; omega
  · have := k2 r h1 h2; omega
  · rcases Nat.lt_trichotomy r s with h | h | h
    · have := k4 r h1 h; omega
    · exact h
    · have := h4 s k1 h; omega

structure Good (fs : Nat → Int) (n m : Nat) (S : Nat → Nat) (V : Nat → Nat → Int) : Prop where
  s0 : S 0 = n
  sz : ∀ l, l ≤ m → ∀ i, i < S l ↔ i * 16 ^ l < n
  vl : ∀ l, l ≤ m → ∀ i, i < S l → ∀ b, V l i < b ↔ ∃ j, i * 16 ^ l ≤ j ∧ j < (i + 1) * 16 ^ l ∧ j < n ∧ fs j < b
  lv : ∀ l, l < m ↔ 16 ^ (l + 1) < n

/-- Nothing from 'frm' on and ahead of entry a of level l is below b. -/
def Up (fs : Nat → Int) (n frm : Nat) (b : Int) (l a : Nat) : Prop :=
  frm ≤ a * 16 ^ l ∧ ∀ j, frm ≤ j → j < a * 16 ^ l → j < n → b ≤ fs j

def Down (fs : Nat → Int) (n frm : Nat) (b : Int) (S : Nat → Nat) (V : Nat → Nat → Int) (l a : Nat) : Prop :=
  Up fs n frm b l a ∧ a < S l ∧ V l a < b

def Dn (fs : Nat → Int) (n frm : Nat) (b : Int) (l a c : Nat) : Prop :=
  Up fs n frm b l c ∧ c < (a + 1) * 16 ∧ ∃ j, c * 16 ^ l ≤ j ∧ j < (a + 1) * 16 ^ (l + 1) ∧ j < n ∧ fs j < b

section
variable {fs : Nat → Int} {n m frm : Nat} {b : Int} {S : Nat → Nat} {V : Nat → Nat → Int} {l a c : Nat}

theorem pow_pos' (l : Nat) : 0 < 16 ^ l := Nat.pow_pos (by omega)

theorem up_start : Up fs n frm b 0 frm := ⟨by simp, fun j h1 h2 _ => by simp at h2; omega⟩

theorem up_step (g : Good fs n m S V) (hl : l ≤ m) (u : Up fs n frm b l a) (ha : a < S l) (hv : b ≤ V l a) : Up fs n frm b l (a + 1) := by
  refine ⟨Nat.le_trans u.1 (Nat.mul_le_mul_right _ (by omega)), fun j h1 h2 h3 => ?_⟩
  by_cases hj : j < a * 16 ^ l
  · exact u.2 j h1 hj h3
  · by_cases hb : b ≤ fs j
    · exact hb
    · exact absurd ((g.vl l hl a ha b).2 ⟨j, by omega, h2, h3, by omega⟩) (by omega)

theorem up_ret (g : Good fs n m S V) (hl : l ≤ m) (u : Up fs n frm b l a) (ha : S l ≤ a) : IsFirst fs n frm b n := by
  refine .inl ⟨rfl, fun j h1 h2 => u.2 j h1 ?_ h2⟩
  have := (g.sz l hl a).2
  rcases Nat.lt_or_ge (a * 16 ^ l) n with h | h
  · have := this h; omega
  · omega

theorem up_up (u : Up fs n frm b l a) (ha : a % 16 = 0) : Up fs n frm b (l + 1) (a / 16) := by
  have e : a / 16 * 16 ^ (l + 1) = a * 16 ^ l := by
    rw [Nat.pow_succ, Nat.mul_comm (16 ^ l) 16, ← Nat.mul_assoc]
    congr 1; omega
  unfold Up; rw [e]; exact u

theorem up_m (g : Good fs n m S V) (hl : l ≤ m) (ha : a < S l) (h16 : 16 ≤ a) : l + 1 ≤ m := by
  have h := (g.sz l hl a).1 ha
  refine (g.lv l).2 (Nat.lt_of_le_of_lt ?_ h)
  rw [Nat.pow_succ, Nat.mul_comm]
  exact Nat.mul_le_mul_right _ h16

theorem dn_start (g : Good fs n m S V) (hl : l + 1 ≤ m) (d : Down fs n frm b S V (l + 1) a) : Dn fs n frm b l a (a * 16) := by
  obtain ⟨u, h1, h2⟩ := d
  have e : a * 16 * 16 ^ l = a * 16 ^ (l + 1) := by rw [Nat.pow_succ, Nat.mul_assoc, Nat.mul_comm 16]
  obtain ⟨j, j1, j2, j3, j4⟩ := (g.vl (l + 1) hl a h1 b).1 h2
  exact ⟨by unfold Up; rw [e]; exact u, by omega, j, by rw [e]; exact j1, j2, j3, j4⟩

theorem dn_in (g : Good fs n m S V) (hl : l ≤ m) (d : Dn fs n frm b l a c) : c < S l := by
  obtain ⟨_, _, j, j1, _, j3, _⟩ := d
  exact (g.sz l hl c).2 (by omega)

theorem dn_step (g : Good fs n m S V) (hl : l ≤ m) (d : Dn fs n frm b l a c) (hv : b ≤ V l c) : Dn fs n frm b l a (c + 1) := by
  have hc := dn_in g hl d
  obtain ⟨u, h1, j, j1, j2, j3, j4⟩ := d
  have u' := up_step g hl u hc hv
  have hj : (c + 1) * 16 ^ l ≤ j := by
    rcases Nat.lt_or_ge j ((c + 1) * 16 ^ l) with h | h
    · exact absurd ((g.vl l hl c hc b).2 ⟨j, j1, h, j3, j4⟩) (by omega)
    · exact h
  refine ⟨u', ?_, j, hj, j2, j3, j4⟩
  have : (c + 1) * 16 ^ l < (a + 1) * 16 * 16 ^ l := by
    have e : (a + 1) * 16 * 16 ^ l = (a + 1) * 16 ^ (l + 1) := by rw [Nat.pow_succ, Nat.mul_assoc, Nat.mul_comm 16]
    rw [e]; omega
  exact Nat.lt_of_mul_lt_mul_right this

theorem dn_done (g : Good fs n m S V) (hl : l ≤ m) (d : Dn fs n frm b l a c) (hv : V l c < b) : Down fs n frm b S V l c :=
  ⟨d.1, dn_in g hl d, hv⟩

theorem down_end (g : Good fs n m S V) (d : Down fs n frm b S V 0 a) : IsFirst fs n frm b a := by
  obtain ⟨u, h1, h2⟩ := d
  have hn : a < n := by have := (g.sz 0 (Nat.zero_le _) a).1 h1; simpa using this
  obtain ⟨j, j1, j2, j3, j4⟩ := (g.vl 0 (Nat.zero_le _) a h1 b).1 h2
  simp only [Nat.pow_zero, Nat.mul_one] at j1 j2
  have : j = a := by omega
  subst this
  exact .inr ⟨by simpa using u.1, hn, j4, fun i i1 i2 => u.2 i i1 (by simpa using i2) (by omega)⟩
end
end Go.Proofs.Qxb6000507aMods
