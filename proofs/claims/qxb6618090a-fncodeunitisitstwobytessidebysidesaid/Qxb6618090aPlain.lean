/-
  SEAT b6618090a: THE PLAIN MATHEMATICS OF 'codeUnit' AND 'zzNibble': no Go in sight.
-/
namespace Go.Proofs.Qxb6618090a.Plain

/-- The value of one hex digit, or -1. -/
def nib (c : Int) : Int :=
  if 48 ≤ c ∧ c ≤ 57 then c - 48 else if 97 ≤ c ∧ c ≤ 102 then c - 87 else if 65 ≤ c ∧ c ≤ 70 then c - 55 else -1

theorem nib_range (c : Int) : -1 ≤ nib c ∧ nib c ≤ 15 := by
  unfold nib
  split
  · omega
  · split
    · omega
    · split <;> omega

theorem nib_digit (c : Int) (h1 : 48 ≤ c) (h2 : c ≤ 57) : nib c = c - 48 := by unfold nib; rw [if_pos ⟨h1, h2⟩]
theorem nib_lower (c : Int) (h1 : 97 ≤ c) (h2 : c ≤ 102) : nib c = c - 87 := by
  unfold nib; rw [if_neg (by omega), if_pos ⟨h1, h2⟩]
theorem nib_upper (c : Int) (h1 : 65 ≤ c) (h2 : c ≤ 70) : nib c = c - 55 := by
  unfold nib; rw [if_neg (by omega), if_neg (by omega), if_pos ⟨h1, h2⟩]
theorem nib_no (c : Int) (h1 : ¬ (48 ≤ c ∧ c ≤ 57)) (h2 : ¬ (97 ≤ c ∧ c ≤ 102)) (h3 : ¬ (65 ≤ c ∧ c ≤ 70)) : nib c = -1 := by
  unfold nib; rw [if_neg h1, if_neg h2, if_neg h3]

/-- The value of the four digits, or -1. -/
def un (c2 c3 c4 c5 : Int) : Int :=
  if 0 ≤ nib c2 ∧ 0 ≤ nib c3 ∧ 0 ≤ nib c4 ∧ 0 ≤ nib c5 then nib c2 * 4096 + nib c3 * 256 + nib c4 * 16 + nib c5 else -1

/-- The code unit of six bytes. -/
def cu (c0 c1 c2 c3 c4 c5 : Int) : Int := if c0 = 92 ∧ c1 = 117 then un c2 c3 c4 c5 else -1

theorem un_range (c2 c3 c4 c5 : Int) : -1 ≤ un c2 c3 c4 c5 ∧ un c2 c3 c4 c5 ≤ 65535 := by
  have h2 := nib_range c2
  have h3 := nib_range c3
  have h4 := nib_range c4
  have h5 := nib_range c5
  unfold un
  split <;> omega

theorem cu_range (c0 c1 c2 c3 c4 c5 : Int) : -1 ≤ cu c0 c1 c2 c3 c4 c5 ∧ cu c0 c1 c2 c3 c4 c5 ≤ 65535 := by
  unfold cu
  split
  · exact un_range _ _ _ _
  · omega

/-- The digits read so far. -/
def acc (f : Nat → Int) : Nat → Int
  | 0 => 0
  | k + 1 => acc f k * 16 + nib (f k)

theorem acc_range (f : Nat → Int) (k : Nat) (hk : k ≤ 4) (h : ∀ j, j < k → 0 ≤ nib (f j)) : 0 ≤ acc f k ∧ acc f k ≤ 65535 ∧ (k ≤ 3 → acc f k ≤ 4095) := by
  have g := fun j => nib_range (f j)
  have g0 := g 0
  have g1 := g 1
  have g2 := g 2
  have g3 := g 3
  match k, hk with
  | 0, _ => simp [acc]
  | 1, _ => have := h 0 (by omega); simp only [acc]; omega
  | 2, _ => have := h 0 (by omega); have := h 1 (by omega); simp only [acc]; omega
  | 3, _ => have := h 0 (by omega); have := h 1 (by omega); have := h 2 (by omega); simp only [acc]; omega
  | 4, _ => have := h 0 (by omega); have := h 1 (by omega); have := h 2 (by omega); have := h 3 (by omega); simp only [acc]; omega

theorem un_full (f : Nat → Int) (h : ∀ j, j < 4 → 0 ≤ nib (f j)) : un (f 0) (f 1) (f 2) (f 3) = acc f 4 := by
  have h0 := h 0 (by omega)
  have h1 := h 1 (by omega)
  have h2 := h 2 (by omega)
  have h3 := h 3 (by omega)
  unfold un
  rw [if_pos ⟨h0, h1, h2, h3⟩]
  simp only [acc]
  omega

theorem un_bad (f : Nat → Int) (k : Nat) (hk : k < 4) (h : nib (f k) = -1) : un (f 0) (f 1) (f 2) (f 3) = -1 := by
  unfold un
  rw [if_neg]
  intro ⟨h0, h1, h2, h3⟩
  match k, hk with
  | 0, _ => omega
  | 1, _ => omega
  | 2, _ => omega
  | 3, _ => omega

/-- Two hex digits behind '00'. -/
theorem un_zero (a b : Int) : un 48 48 a b = if 0 ≤ nib a ∧ 0 ≤ nib b then nib a * 16 + nib b else -1 := by
  have h : nib 48 = 0 := by decide
  unfold un
  rw [h]
  by_cases g : 0 ≤ nib a ∧ 0 ≤ nib b
  · rw [if_pos ⟨by omega, by omega, g.1, g.2⟩, if_pos g]; omega
  · rw [if_neg (fun q => g ⟨q.2.2.1, q.2.2.2⟩), if_neg g]

end Go.Proofs.Qxb6618090a.Plain
