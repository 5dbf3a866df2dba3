/-
  The plain laws: digit runs, the reader 'isPlain' and the automaton, over lists of bytes. No Go in sight.
-/
namespace Go.Proofs.Qxb6600277aMods

def isD (c : UInt8) : Bool := decide (48 ≤ c.toNat) && decide (c.toNat ≤ 57)

def run : List UInt8 → Nat
  | [] => 0
  | c :: l => if isD c then run l + 1 else 0

theorem run_le : ∀ l : List UInt8, run l ≤ l.length
  | [] => Nat.le_refl _
  | c :: l => by
    simp only [run, List.length_cons]
    have := run_le l
    split <;> omega

theorem run_digit : ∀ (l : List UInt8) (j : Nat), j < run l → isD (l.getD j 0) = true
  | [], j, h => by simp [run] at h
  | c :: l, j, h => by
    simp only [run] at h
    split at h
    · rename_i hc
      cases j with
      | zero => simpa using hc
      | succ j => simpa using run_digit l j (by omega)
    · omega

theorem run_stop : ∀ (l : List UInt8), run l < l.length → isD (l.getD (run l) 0) = false
  | [], h => by simp [run] at h
  | c :: l, h => by
    simp only [run] at h ⊢
    split
    · rename_i hc
      rw [if_pos hc] at h
      simpa using run_stop l (by simpa using h)
    · rename_i hc
      simpa using hc

/-- What the loop of 'digitRun' has found so far fixes the run. -/
theorem run_of : ∀ (l : List UInt8) (k : Nat), k ≤ l.length → (∀ j, j < k → isD (l.getD j 0) = true) → (k < l.length → isD (l.getD k 0) = false) → run l = k
  | [], k, h, _, _ => by simp at h; subst h; rfl
  | c :: l, 0, _, _, h3 => by
    have := h3 (by simp)
    simp at this
    simp [run, this]
  | c :: l, k + 1, h1, h2, h3 => by
    have hc := h2 0 (by omega)
    simp at hc
    have ih := run_of l k (by simpa using h1) (fun j hj => by simpa using h2 (j + 1) (by omega)) (fun hk => by simpa using h3 (by simpa using hk))
    simp [run, hc, ih]

/-- The automaton, from state 'st' on. -/
def dfa : Nat → List UInt8 → Bool
  | st, [] => st == 2 || st == 4
  | 0, c :: l => if c == 45 then dfa 1 l else if isD c then dfa 2 l else false
  | 1, c :: l => if isD c then dfa 2 l else false
  | 2, c :: l => if c == 46 then dfa 3 l else if isD c then dfa 2 l else false
  | 3, c :: l => if isD c then dfa 4 l else false
  | _ + 4, c :: l => if isD c then dfa 4 l else false

/-- The reader: what 'isPlain' does. -/
def strip : List UInt8 → List UInt8
  | [] => []
  | c :: l => if c == 45 then l else c :: l
def tailOk : List UInt8 → Bool
  | [] => true
  | c :: l => c == 46 && (!l.isEmpty && run l == l.length)
def body (l : List UInt8) : Bool := if run l == 0 then false else tailOk (l.drop (run l))
def plain (l : List UInt8) : Bool := body (strip l)

theorem dot_not_digit : isD 46 = false := by decide
theorem minus_not_digit : isD 45 = false := by decide

theorem dfa4 : ∀ l : List UInt8, dfa 4 l = (run l == l.length)
  | [] => rfl
  | c :: l => by
    have ih := dfa4 l
    simp only [dfa, run, List.length_cons]
    split
    · rw [ih, Bool.eq_iff_iff]; simp
    · rw [Bool.eq_iff_iff]; simp

theorem dfa3 (l : List UInt8) : dfa 3 l = (!l.isEmpty && run l == l.length) := by
  cases l with
  | nil => rfl
  | cons c l =>
    have ih := dfa4 l
    simp only [dfa, run, List.length_cons]
    split
    · rw [ih, Bool.eq_iff_iff]; simp
    · rw [Bool.eq_iff_iff]; simp

theorem dfa2 : ∀ l : List UInt8, dfa 2 l = tailOk (l.drop (run l))
  | [] => rfl
  | c :: l => by
    have ih := dfa2 l
    by_cases hc : c = 46
    · subst hc
      simp [dfa, run, dot_not_digit, tailOk, dfa3]
    · have h1 : (c == 46) = false := by simp [hc]
      by_cases hd : isD c = true
      · simp [dfa, run, h1, hd, ih]
      · have hd' : isD c = false := by simpa using hd
        simp [dfa, run, h1, hd', tailOk]

theorem dfa1 (l : List UInt8) : dfa 1 l = body l := by
  cases l with
  | nil => rfl
  | cons c l =>
    by_cases hd : isD c = true
    · simp [dfa, body, run, hd, dfa2]
    · have hd' : isD c = false := by simpa using hd
      simp [dfa, body, run, hd']

theorem dfa0 (l : List UInt8) : dfa 0 l = plain l := by
  cases l with
  | nil => rfl
  | cons c l =>
    by_cases hc : c = 45
    · subst hc
      simp [dfa, plain, strip, dfa1]
    · have h1 : (c == 45) = false := by simp [hc]
      have h2 := dfa1 (c :: l)
      simp only [dfa] at h2 ⊢
      simp only [h1, plain, strip]
      exact h2
end Go.Proofs.Qxb6600277aMods
