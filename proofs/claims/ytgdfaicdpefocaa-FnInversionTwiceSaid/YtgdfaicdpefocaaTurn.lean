/-
  The plain law of turning odd numbers of odd bands, one behind the other. No program here.
-/
namespace Go.Proofs.Ytgdfaicdpefocaa

/-- Number j of 576 is an odd one of an odd band of 18. -/
def oddOne (j : Nat) : Bool := j / 18 % 2 == 1 && j % 18 % 2 == 1

/-- The numbers x, where those of the bands ahead of 'band', and of 'band' those ahead of k, are turned. -/
def turn (neg : Nat → Nat) (x : Nat → Nat) (band k : Nat) (j : Nat) : Nat :=
  if oddOne j = true ∧ (j / 18 < band ∨ (j / 18 = band ∧ j % 18 < k)) then neg (x j) else x j

/-- All odd numbers of odd bands are turned. -/
def inv (neg : Nat → Nat) (x : Nat → Nat) (j : Nat) : Nat := if oddOne j = true then neg (x j) else x j

theorem turn_start (neg : Nat → Nat) (x : Nat → Nat) (j : Nat) : turn neg x 1 1 j = x j := by
  unfold turn
  rw [if_neg]
  rintro ⟨h, h'⟩
  simp only [oddOne, Bool.and_eq_true, beq_iff_eq] at h
  omega

theorem turn_at (neg : Nat → Nat) (x : Nat → Nat) {band k : Nat} (hk : k < 18) : turn neg x band k (18 * band + k) = x (18 * band + k) := by
  unfold turn
  rw [if_neg]
  rintro ⟨_, h'⟩
  omega

theorem turn_step (neg : Nat → Nat) (x : Nat → Nat) {band k : Nat} (hk : k < 18) (ob : band % 2 = 1) (ok : k % 2 = 1) (j : Nat) :
    (if j = 18 * band + k then neg (x (18 * band + k)) else turn neg x band k j) = turn neg x band (k + 2) j := by
  by_cases e : j = 18 * band + k
  · subst e
    rw [if_pos rfl]
    unfold turn
    rw [if_pos]
    simp only [oddOne, Bool.and_eq_true, beq_iff_eq]
    omega
  · rw [if_neg e]
    unfold turn
    by_cases h : oddOne j = true ∧ (j / 18 < band ∨ (j / 18 = band ∧ j % 18 < k))
    · rw [if_pos h, if_pos]
      exact ⟨h.1, by omega⟩
    · rw [if_neg h, if_neg]
      rintro ⟨h1, h2⟩
      refine h ⟨h1, ?_⟩
      simp only [oddOne, Bool.and_eq_true, beq_iff_eq] at h1
      omega

theorem turn_next (neg : Nat → Nat) (x : Nat → Nat) {band k : Nat} (hk : 18 ≤ k) (ob : band % 2 = 1) (j : Nat) : turn neg x band k j = turn neg x (band + 2) 1 j := by
  unfold turn
  by_cases h : oddOne j = true ∧ (j / 18 < band ∨ (j / 18 = band ∧ j % 18 < k))
  · rw [if_pos h, if_pos]
    exact ⟨h.1, by omega⟩
  · rw [if_neg h, if_neg]
    rintro ⟨h1, h2⟩
    refine h ⟨h1, ?_⟩
    simp only [oddOne, Bool.and_eq_true, beq_iff_eq] at h1
    omega

theorem turn_end (neg : Nat → Nat) (x : Nat → Nat) {band : Nat} (hb : 32 ≤ band) (j : Nat) (hj : j < 576) : turn neg x band 1 j = inv neg x j := by
  unfold turn inv
  by_cases h : oddOne j = true
  · rw [if_pos h, if_pos]
    exact ⟨h, by omega⟩
  · rw [if_neg h, if_neg]
    exact fun h' => h h'.1

theorem inv_twice (neg : Nat → Nat) (x : Nat → Nat) (j : Nat) (h : neg (neg (x j)) = x j) : inv neg (inv neg x) j = x j := by
  unfold inv
  by_cases o : oddOne j = true
  · simp [o, h]
  · simp [o]

end Go.Proofs.Ytgdfaicdpefocaa
