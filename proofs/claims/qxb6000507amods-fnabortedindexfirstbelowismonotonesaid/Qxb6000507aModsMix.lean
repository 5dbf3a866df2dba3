import Derived.Test.Qxb6000507aModsPlain
/-
  What 'add' does to the levels, in plain numbers. 'Mix .. lev': the levels below 'lev' know of place n already, the others do not. 'Mid .. lev': the same, and level 'lev' is there.
-/
namespace Go.Proofs.Qxb6000507aMods

def SizeOk (n : Nat) (S : Nat → Nat) (l : Nat) : Prop := ∀ i, i < S l ↔ i * 16 ^ l < n
def ValOk (fs : Nat → Int) (n : Nat) (S : Nat → Nat) (V : Nat → Nat → Int) (l : Nat) : Prop :=
  ∀ i, i < S l → ∀ b, V l i < b ↔ ∃ j, i * 16 ^ l ≤ j ∧ j < (i + 1) * 16 ^ l ∧ j < n ∧ fs j < b

structure Mix (fs : Nat → Int) (n lev m : Nat) (S : Nat → Nat) (V : Nat → Nat → Int) : Prop where
  lo : 1 ≤ lev
  m1 : lev ≤ m + 1
  szA : ∀ l, l < lev → SizeOk (n + 1) S l
  szB : ∀ l, lev ≤ l → l ≤ m → SizeOk n S l
  vlA : ∀ l, l < lev → ValOk fs (n + 1) S V l
  vlB : ∀ l, lev ≤ l → l ≤ m → ValOk fs n S V l
  lvB : ∀ l, lev ≤ l → (l ≤ m ↔ 16 ^ l < n)
  lvA : lev = 1 ∨ 16 ^ (lev - 1) ≤ n

structure Mid (fs : Nat → Int) (n lev m : Nat) (S : Nat → Nat) (V : Nat → Nat → Int) : Prop where
  lo : 1 ≤ lev
  m1 : lev ≤ m
  szA : ∀ l, l < lev → SizeOk (n + 1) S l
  szB : ∀ l, lev ≤ l → l ≤ m → SizeOk n S l
  vlA : ∀ l, l < lev → ValOk fs (n + 1) S V l
  vlB : ∀ l, lev ≤ l → l ≤ m → ValOk fs n S V l
  lvB : ∀ l, lev < l → (l ≤ m ↔ 16 ^ l < n)
  lvA : 16 ^ lev ≤ n

section
variable {fs : Nat → Int} {n m lev : Nat} {S S' : Nat → Nat} {V V' : Nat → Nat → Int}

theorem SizeOk.congr {l : Nat} (h : SizeOk n S l) (e : S' l = S l) : SizeOk n S' l := fun i => by rw [e]; exact h i
theorem ValOk.congr {l : Nat} (h : ValOk fs n S V l) (e : S' l = S l) (e' : ∀ i, V' l i = V l i) : ValOk fs n S' V' l := fun i hi b => by rw [e'] ; exact h i (by rw [← e]; exact hi) b

theorem pow_le_pow' {a b : Nat} (h : a ≤ b) : 16 ^ a ≤ 16 ^ b := Nat.pow_le_pow_right (by omega) h

theorem mix_start (g : Good fs n m S V) (e0 : S' 0 = n + 1) (e : ∀ l, l ≠ 0 → S' l = S l) (v0 : V' 0 n = fs n) (v : ∀ l i, l ≠ 0 ∨ i ≠ n → V' l i = V l i) : Mix fs n 1 m S' V' := by
  refine ⟨Nat.le_refl _, by omega, ?_, ?_, ?_, ?_, ?_, .inl rfl⟩
  · intro l hl
    have : l = 0 := by omega
    subst this
    intro i; rw [e0]; simp
  · intro l h1 h2
    exact SizeOk.congr (S := S) (g.sz l h2) (e l (by omega))
  · intro l hl
    have : l = 0 := by omega
    subst this
    intro i hi b
    rw [e0] at hi
    have key : ∀ j, i * 16 ^ 0 ≤ j → j < (i + 1) * 16 ^ 0 → j = i := fun j h1 h2 => by simp at h1 h2; omega
    by_cases hin : i = n
    · subst hin
      rw [v0]
      constructor
      · intro h; exact ⟨i, by simp, by simp, by omega, h⟩
      · rintro ⟨j, j1, j2, _, j4⟩; rw [key j j1 j2] at j4; exact j4
    · rw [v 0 i (.inr hin), g.vl 0 (Nat.zero_le _) i (by rw [g.s0]; omega)]
      constructor
      · rintro ⟨j, j1, j2, j3, j4⟩; exact ⟨j, j1, j2, by omega, j4⟩
      · rintro ⟨j, j1, j2, j3, j4⟩; have := key j j1 j2; exact ⟨j, j1, j2, by omega, j4⟩
  · intro l h1 h2
    exact ValOk.congr (S := S) (V := V) (g.vl l h2) (e l (by omega)) (fun i => v l i (.inl (by omega)))
  · intro l hl
    have := g.lv (l - 1)
    rw [show l - 1 + 1 = l from by omega] at this
    rw [← this]; omega

theorem mix_end (g : Mix fs n lev m S V) (h : n / 16 ^ (lev - 1) < 16) : Good fs (n + 1) m S V := by
  have hp := pow_pos' (lev - 1)
  have hlt : n < 16 ^ lev := by
    have := (Nat.div_lt_iff_lt_mul hp).1 h
    rw [show lev = lev - 1 + 1 from by have := g.lo; omega, Nat.pow_succ, Nat.mul_comm]
    exact this
  have hm : m + 1 = lev := by
    have h1 := g.m1
    rcases Nat.lt_or_ge m lev with h | h
    · omega
    · have := (g.lvB lev (Nat.le_refl _)).1 h
      omega
  have s0 : S 0 = n + 1 := by
    have h0 := g.szA 0 g.lo
    have a := h0 (S 0)
    have b := h0 n
    have c := h0 (n + 1)
    simp at a b c
    omega
  refine ⟨s0, fun l hl => g.szA l (by omega), fun l hl => g.vlA l (by omega), fun l => ?_⟩
  constructor
  · intro hl
    have h2 := pow_le_pow' (show l + 1 ≤ lev - 1 from by omega)
    rcases g.lvA with h | h
    · omega
    · omega
  · intro hl
    rcases Nat.lt_or_ge l m with h | h
    · exact h
    · have := pow_le_pow' (show lev ≤ l + 1 from by omega); omega

theorem at_pow (h : 16 ≤ n / 16 ^ (lev - 1)) (hl : 1 ≤ lev) : 16 ^ lev ≤ n := by
  have hp := pow_pos' (lev - 1)
  have := (Nat.le_div_iff_mul_le hp).1 h
  rw [show lev = lev - 1 + 1 from by omega, Nat.pow_succ, Nat.mul_comm]
  exact this

theorem at_next (hl : 1 ≤ lev) : n / 16 ^ (lev - 1) / 16 = n / 16 ^ lev := by
  rw [Nat.div_div_eq_div_mul, ← Nat.pow_succ, show (lev - 1).succ = lev from by omega]

theorem mix_mid (g : Mix fs n lev m S V) (h : 16 ≤ n / 16 ^ (lev - 1)) (hm : lev ≤ m) : Mid fs n lev m S V :=
  ⟨g.lo, hm, g.szA, g.szB, g.vlA, g.vlB, fun l hl => g.lvB l (by omega), at_pow h g.lo⟩

/-- The first sixteen entries of the level below are there. -/
theorem mix_in (g : Mix fs n lev m S V) (h : 16 ≤ n / 16 ^ (lev - 1)) (i : Nat) (hi : i < 16) : lev - 1 ≤ m ∧ i < S (lev - 1) := by
  have h1 := g.m1
  have h2 := g.lo
  refine ⟨by omega, (g.szA (lev - 1) (by omega) i).2 ?_⟩
  have hp := at_pow h g.lo
  have : i * 16 ^ (lev - 1) ≤ 16 * 16 ^ (lev - 1) := Nat.mul_le_mul_right _ (by omega)
  have e : 16 * 16 ^ (lev - 1) = 16 ^ lev := by
    rw [Nat.mul_comm, ← Nat.pow_succ, show (lev - 1).succ = lev from by omega]
  omega

theorem mix_new (g : Mix fs n lev m S V) (h : 16 ≤ n / 16 ^ (lev - 1)) (hm : m < lev) (u : Int) (hu : ∀ b, u < b ↔ ∃ i, i < 16 ∧ V (lev - 1) i < b)
    (e0 : S' (m + 1) = 1) (e : ∀ l, l ≠ m + 1 → S' l = S l) (v0 : V' (m + 1) 0 = u) (v : ∀ l i, l ≠ m + 1 ∨ i ≠ 0 → V' l i = V l i) : Mid fs n lev (m + 1) S' V' := by
  have h1 := g.m1
  have h2 := g.lo
  have hml : m + 1 = lev := by omega
  have hn := at_pow h g.lo
  have hn' : n ≤ 16 ^ lev := by
    have := g.lvB lev (Nat.le_refl _)
    omega
  have hn2 : n = 16 ^ lev := by omega
  have hp := pow_pos' lev
  rw [hml] at e0 e v0 v ⊢
  have ep : 16 * 16 ^ (lev - 1) = 16 ^ lev := by
    rw [Nat.mul_comm, ← Nat.pow_succ, show (lev - 1).succ = lev from by omega]
  refine ⟨h2, Nat.le_refl _, fun l hl => (g.szA l hl).congr (e l (by omega)), ?_, fun l hl => (g.vlA l hl).congr (e l (by omega)) (fun i => v l i (.inl (by omega))), ?_, ?_, hn⟩
  · intro l l1 l2
    have : l = lev := by omega
    subst this
    intro i
    rw [e0]
    constructor
    · intro hi; have : i = 0 := by omega
      subst this; simp; omega
    · intro hi
      rcases Nat.lt_or_ge i 1 with h | h
      · exact h
      · have := Nat.mul_le_mul_right (16 ^ l) h; omega
  · intro l l1 l2
    have : l = lev := by omega
    subst this
    intro i hi b
    rw [e0] at hi
    have : i = 0 := by omega
    subst this
    rw [v0, hu]
    constructor
    · rintro ⟨k, k1, k2⟩
      obtain ⟨_, hk⟩ := mix_in g h k k1
      obtain ⟨j, j1, j2, j3, j4⟩ := (g.vlA (l - 1) (by omega) k hk b).1 k2
      have hj : j < n := by
        have : (k + 1) * 16 ^ (l - 1) ≤ 16 * 16 ^ (l - 1) := Nat.mul_le_mul_right _ (by omega)
        omega
      exact ⟨j, by simp, by simp; omega, hj, j4⟩
    · rintro ⟨j, j1, j2, j3, j4⟩
      have hp' := pow_pos' (l - 1)
      refine ⟨j / 16 ^ (l - 1), ?_, ?_⟩
      · rw [Nat.div_lt_iff_lt_mul hp', ep]; omega
      · have hk : j / 16 ^ (l - 1) < 16 := by rw [Nat.div_lt_iff_lt_mul hp', ep]; omega
        obtain ⟨_, hk'⟩ := mix_in g h _ hk
        refine (g.vlA (l - 1) (by omega) _ hk' b).2 ⟨j, Nat.div_mul_le_self _ _, ?_, by omega, j4⟩
        have := Nat.lt_div_mul_add hp' (a := j)
        rw [Nat.add_mul]; omega
  · intro l hl
    have := pow_le_pow' (show lev ≤ l from by omega)
    constructor
    · intro h; omega
    · intro h; omega

theorem mid_at (g : Mid fs n lev m S V) : n / 16 ^ lev ≤ S lev ∧ (n / 16 ^ lev = S lev ↔ n / 16 ^ lev * 16 ^ lev = n) := by
  have hz := g.szB lev (Nat.le_refl _) g.m1
  have hp := pow_pos' lev
  have hd := Nat.div_mul_le_self n (16 ^ lev)
  constructor
  · rcases Nat.lt_or_ge (S lev) (n / 16 ^ lev) with h | h
    · exfalso
      have h1 := (hz (S lev)).2
      have : S lev * 16 ^ lev < n / 16 ^ lev * 16 ^ lev := Nat.mul_lt_mul_of_pos_right h hp
      have := h1 (by omega)
      omega
    · exact h
  · have h2 := hz (n / 16 ^ lev)
    constructor
    · intro e; rw [← e] at h2; omega
    · intro e
      have h3 : ¬ n / 16 ^ lev < S lev := fun h => by have := h2.1 h; omega
      rcases Nat.lt_trichotomy (n / 16 ^ lev) (S lev) with h | h | h
      · exact absurd h h3
      · exact h
      · exfalso
        have h4 := (hz (S lev)).2
        have : S lev * 16 ^ lev < n / 16 ^ lev * 16 ^ lev := Nat.mul_lt_mul_of_pos_right h hp
        have := h4 (by omega)
        omega

/-- What every other entry of the level says of n, it says of n + 1. -/
theorem val_other (hz : SizeOk n S lev) (hv : ValOk fs n S V lev) (i : Nat) (hi : i < n / 16 ^ lev) (b : Int) :
    V lev i < b ↔ ∃ j, i * 16 ^ lev ≤ j ∧ j < (i + 1) * 16 ^ lev ∧ j < n + 1 ∧ fs j < b := by
  have hp := pow_pos' lev
  have h1 : (i + 1) * 16 ^ lev ≤ n := by
    have := Nat.mul_le_mul_right (16 ^ lev) (show i + 1 ≤ n / 16 ^ lev from hi)
    have := Nat.div_mul_le_self n (16 ^ lev)
    omega
  have h2 : i < S lev := (hz i).2 (by rw [Nat.add_mul] at h1; omega)
  rw [hv i h2]
  constructor
  · rintro ⟨j, j1, j2, j3, j4⟩; exact ⟨j, j1, j2, by omega, j4⟩
  · rintro ⟨j, j1, j2, j3, j4⟩; exact ⟨j, j1, j2, by omega, j4⟩

theorem mid_push (g : Mid fs n lev m S V) (hat : n / 16 ^ lev = S lev)
    (e0 : S' lev = S lev + 1) (e : ∀ l, l ≠ lev → S' l = S l) (v0 : V' lev (S lev) = fs n) (v : ∀ l i, l ≠ lev ∨ i ≠ S lev → V' l i = V l i) : Mix fs n (lev + 1) m S' V' := by
  have hp := pow_pos' lev
  have hz := g.szB lev (Nat.le_refl _) g.m1
  have hv := g.vlB lev (Nat.le_refl _) g.m1
  have hm := (mid_at g).2.1 hat
  rw [hat] at hm
  refine ⟨by omega, by have := g.m1; omega, ?_, fun l l1 l2 => (g.szB l (by omega) l2).congr (e l (by omega)), ?_, fun l l1 l2 => (g.vlB l (by omega) l2).congr (e l (by omega)) (fun i => v l i (.inl (by omega))), fun l hl => g.lvB l (by omega), .inr (by simpa using g.lvA)⟩
  · intro l hl
    by_cases hll : l = lev
    · subst hll
      intro i
      rw [e0]
      constructor
      · intro hi
        have := Nat.mul_le_mul_right (16 ^ l) (show i ≤ S l from by omega); omega
      · intro hi
        rcases Nat.lt_or_ge i (S l + 1) with h | h
        · exact h
        · have := Nat.mul_le_mul_right (16 ^ l) h
          rw [Nat.add_mul] at this; omega
    · exact (g.szA l (by omega)).congr (e l hll)
  · intro l hl
    by_cases hll : l = lev
    · subst hll
      intro i hi b
      rw [e0] at hi
      by_cases his : i = S l
      · subst his
        rw [v0]
        constructor
        · intro h; exact ⟨n, by omega, by rw [Nat.add_mul]; omega, by omega, h⟩
        · rintro ⟨j, j1, j2, j3, j4⟩
          have : j = n := by omega
          rw [← this]; exact j4
      · rw [v l i (.inr his)]
        exact val_other hz hv i (by omega) b
    · exact (g.vlA l (by omega)).congr (e l hll) (fun i => v l i (.inl hll))

theorem mid_in (g : Mid fs n lev m S V) (hat : n / 16 ^ lev ≠ S lev) : n / 16 ^ lev < S lev := by
  have := (mid_at g).1; omega

theorem mid_set (g : Mid fs n lev m S V) (hat : n / 16 ^ lev ≠ S lev)
    (v0 : V' lev (n / 16 ^ lev) = min (V lev (n / 16 ^ lev)) (fs n)) (v : ∀ l i, l ≠ lev ∨ i ≠ n / 16 ^ lev → V' l i = V l i) : Mix fs n (lev + 1) m S V' := by
  have hp := pow_pos' lev
  have hz := g.szB lev (Nat.le_refl _) g.m1
  have hv := g.vlB lev (Nat.le_refl _) g.m1
  have hin := mid_in g hat
  have hd := Nat.div_mul_le_self n (16 ^ lev)
  have hd2 := Nat.lt_div_mul_add hp (a := n)
  refine ⟨by omega, by have := g.m1; omega, ?_, fun l l1 l2 => g.szB l (by omega) l2, ?_, fun l l1 l2 => (g.vlB l (by omega) l2).congr rfl (fun i => v l i (.inl (by omega))), fun l hl => g.lvB l (by omega), .inr (by simpa using g.lvA)⟩
  · intro l hl
    by_cases hll : l = lev
    · subst hll
      intro i
      rw [hz i]
      constructor
      · intro h; omega
      · intro h
        have h3 := (hz (n / 16 ^ l)).1 hin
        rcases Nat.lt_or_ge (i * 16 ^ l) n with h' | h'
        · exact h'
        · exfalso
          have he : i * 16 ^ l = n := by omega
          rw [← he, Nat.mul_div_cancel _ hp] at h3
          omega
    · exact g.szA l (by omega)
  · intro l hl
    by_cases hll : l = lev
    · subst hll
      intro i hi b
      by_cases his : i = n / 16 ^ l
      · subst his
        rw [v0]
        have hvv := hv _ hin b
        constructor
        · intro h
          by_cases hb : fs n < b
          · exact ⟨n, hd, by rw [Nat.add_mul]; omega, by omega, hb⟩
          · obtain ⟨j, j1, j2, j3, j4⟩ := hvv.1 (by omega)
            exact ⟨j, j1, j2, by omega, j4⟩
        · rintro ⟨j, j1, j2, j3, j4⟩
          by_cases hjn : j = n
          · subst hjn; omega
          · have := hvv.2 ⟨j, j1, j2, by omega, j4⟩; omega
      · rw [v l i (.inr his)]
        refine val_other hz hv i ?_ b
        rcases Nat.lt_or_ge i (n / 16 ^ l) with h | h
        · exact h
        · exfalso
          have h5 := (hz i).1 hi
          have h6 := Nat.mul_le_mul_right (16 ^ l) (show n / 16 ^ l + 1 ≤ i from by omega)
          rw [Nat.add_mul] at h6; omega
    · exact (g.vlA l (by omega)).congr rfl (fun i => v l i (.inl hll))
end
end Go.Proofs.Qxb6000507aMods
