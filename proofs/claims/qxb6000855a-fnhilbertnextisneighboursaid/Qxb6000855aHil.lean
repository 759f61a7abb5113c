/-
  The plain law of the Hilbert curve: no Go in sight.
-/
namespace Go.Proofs.Qxb6000855a.Hil

/-- The place of the cell x, y of the grid of side 2^j. -/
def hil : Nat → Nat → Nat → Nat
  | 0, _, _ => 0
  | j + 1, x, y =>
    if y < 2 ^ j then
      if x < 2 ^ j then hil j y x
      else 3 * (2 ^ j * 2 ^ j) + hil j (2 ^ j - 1 - y) (2 * 2 ^ j - 1 - x)
    else if x < 2 ^ j then 2 ^ j * 2 ^ j + hil j x (y - 2 ^ j)
    else 2 * (2 ^ j * 2 ^ j) + hil j (x - 2 ^ j) (y - 2 ^ j)

theorem sq_succ (j : Nat) : 2 ^ (j + 1) * 2 ^ (j + 1) = 4 * (2 ^ j * 2 ^ j) := by
  rw [Nat.pow_succ]; generalize 2 ^ j = s
  rw [Nat.mul_mul_mul_comm, Nat.mul_comm]

theorem hil_lt : ∀ (j x y : Nat), x < 2 ^ j → y < 2 ^ j → hil j x y < 2 ^ j * 2 ^ j
  | 0, _, _, _, _ => by simp [hil]
  | j + 1, x, y, hx, hy => by
    have i := hil_lt j
    rw [sq_succ]
    rw [Nat.pow_succ] at hx hy
    unfold hil
    generalize 2 ^ j = s at *
    split
    · split
      · have := i y x (by omega) (by omega); omega
      · have := i (s - 1 - y) (2 * s - 1 - x) (by omega) (by omega); omega
    · split
      · have := i x (y - s) (by omega) (by omega); omega
      · have := i (x - s) (y - s) (by omega) (by omega); omega

theorem hil_zero : ∀ j, hil j 0 0 = 0
  | 0 => rfl
  | j + 1 => by
    have h : 0 < 2 ^ j := Nat.two_pow_pos j
    unfold hil; rw [if_pos h, if_pos h]; exact hil_zero j

theorem hil_inj : ∀ (j x y x' y' : Nat), x < 2 ^ j → y < 2 ^ j → x' < 2 ^ j → y' < 2 ^ j → hil j x y = hil j x' y' → x = x' ∧ y = y'
  | 0, x, y, x', y', hx, hy, hx', hy', _ => by simp at *; omega
  | j + 1, x, y, x', y', hx, hy, hx', hy', he => by
    have i := hil_inj j
    have l := hil_lt j
    have hs : 0 < 2 ^ j := Nat.two_pow_pos j
    rw [Nat.pow_succ] at hx hy hx' hy'
    unfold hil at he
    generalize 2 ^ j = s at *
    generalize s * s = q at *
    have a0 : x < s → y < s → hil j y x < q := fun a b => l _ _ b a
    have a1 : x < s → ¬ y < s → hil j x (y - s) < q := fun a b => l _ _ a (by omega)
    have a2 : ¬ x < s → ¬ y < s → hil j (x - s) (y - s) < q := fun a b => l _ _ (by omega) (by omega)
    have a3 : ¬ x < s → y < s → hil j (s - 1 - y) (2 * s - 1 - x) < q := fun a b => l _ _ (by omega) (by omega)
    have b0 : x' < s → y' < s → hil j y' x' < q := fun a b => l _ _ b a
    have b1 : x' < s → ¬ y' < s → hil j x' (y' - s) < q := fun a b => l _ _ a (by omega)
    have b2 : ¬ x' < s → ¬ y' < s → hil j (x' - s) (y' - s) < q := fun a b => l _ _ (by omega) (by omega)
    have b3 : ¬ x' < s → y' < s → hil j (s - 1 - y') (2 * s - 1 - x') < q := fun a b => l _ _ (by omega) (by omega)
    by_cases h1 : y < s <;> by_cases h2 : x < s <;> by_cases h3 : y' < s <;> by_cases h4 : x' < s <;>
      simp only [h1, h2, h3, h4, if_true, if_false, true_implies, false_implies, not_true_eq_false, not_false_eq_true] at he a0 a1 a2 a3 b0 b1 b2 b3 <;>
      first
      | omega
      | (have := i y x y' x' (by omega) (by omega) (by omega) (by omega) (by omega); omega)
      | (have := i x (y - s) x' (y' - s) (by omega) (by omega) (by omega) (by omega) (by omega); omega)
      | (have := i (x - s) (y - s) (x' - s) (y' - s) (by omega) (by omega) (by omega) (by omega) (by omega); omega)
      | (have := i (s - 1 - y) (2 * s - 1 - x) (s - 1 - y') (2 * s - 1 - x') (by omega) (by omega) (by omega) (by omega) (by omega); omega)

/-- The last place is that of the corner at the end of the first row. -/
theorem hil_last : ∀ (j x y : Nat), x < 2 ^ j → y < 2 ^ j → hil j x y + 1 = 2 ^ j * 2 ^ j → x + 1 = 2 ^ j ∧ y = 0
  | 0, x, y, hx, hy, _ => by simp at *; omega
  | j + 1, x, y, hx, hy, he => by
    have i := hil_last j
    have l := hil_lt j
    have hs : 0 < 2 ^ j := Nat.two_pow_pos j
    rw [sq_succ] at he
    rw [Nat.pow_succ] at hx hy ⊢
    unfold hil at he
    generalize 2 ^ j = s at *
    generalize s * s = q at *
    by_cases h1 : y < s <;> by_cases h2 : x < s <;> simp only [h1, h2, if_true, if_false] at he
    · have := l y x (by omega) (by omega); omega
    · have := l (s - 1 - y) (2 * s - 1 - x) (by omega) (by omega)
      have := i (s - 1 - y) (2 * s - 1 - x) (by omega) (by omega) (by omega); omega
    · have := l x (y - s) (by omega) (by omega); omega
    · have := l (x - s) (y - s) (by omega) (by omega); omega

def adj (x y x' y' : Nat) : Prop := (x' = x + 1 ∧ y' = y) ∨ (x = x' + 1 ∧ y' = y) ∨ (x' = x ∧ y' = y + 1) ∨ (x' = x ∧ y = y' + 1)

theorem hil_next : ∀ (j x y : Nat), x < 2 ^ j → y < 2 ^ j → hil j x y + 1 < 2 ^ j * 2 ^ j →
    ∃ x' y', x' < 2 ^ j ∧ y' < 2 ^ j ∧ adj x y x' y' ∧ hil j x' y' = hil j x y + 1
  | 0, x, y, hx, hy, he => by simp at *
  | j + 1, x, y, hx, hy, he => by
    have i := hil_next j
    have l := hil_lt j
    have e := hil_last j
    have hs : 0 < 2 ^ j := Nat.two_pow_pos j
    have z := hil_zero j
    rw [sq_succ] at he
    rw [Nat.pow_succ] at hx hy ⊢
    unfold hil at he ⊢
    generalize 2 ^ j = s at *
    generalize s * s = q at *
    by_cases h1 : y < s
    · by_cases h2 : x < s
      · rw [if_pos h1, if_pos h2] at he ⊢
        have b := l y x h1 h2
        by_cases hl : hil j y x + 1 = q
        · obtain ⟨e1, e2⟩ := e y x h1 h2 hl
          refine ⟨x, y + 1, by omega, by omega, Or.inr (Or.inr (Or.inl ⟨rfl, rfl⟩)), ?_⟩
          rw [if_neg (by omega), if_pos h2, e2, show y + 1 - s = 0 by omega, z]; subst e2; omega
        · obtain ⟨a, b, ha, hb, hab, hv⟩ := i y x h1 h2 (by omega)
          refine ⟨b, a, by omega, by omega, ?_, ?_⟩
          · unfold adj at *; omega
          · rw [if_pos ha, if_pos hb]; exact hv
      · rw [if_pos h1, if_neg h2] at he ⊢
        have b := l (s - 1 - y) (2 * s - 1 - x) (by omega) (by omega)
        obtain ⟨a, b, ha, hb, hab, hv⟩ := i (s - 1 - y) (2 * s - 1 - x) (by omega) (by omega) (by omega)
        refine ⟨2 * s - 1 - b, s - 1 - a, by omega, by omega, ?_, ?_⟩
        · unfold adj at *; omega
        · rw [if_pos (by omega), if_neg (by omega), show s - 1 - (s - 1 - a) = a by omega, show 2 * s - 1 - (2 * s - 1 - b) = b by omega, hv]; omega
    · by_cases h2 : x < s
      · rw [if_neg h1, if_pos h2] at he ⊢
        have b := l x (y - s) h2 (by omega)
        by_cases hl : hil j x (y - s) + 1 = q
        · obtain ⟨e1, e2⟩ := e x (y - s) h2 (by omega) hl
          refine ⟨x + 1, y, by omega, by omega, Or.inl ⟨rfl, rfl⟩, ?_⟩
          rw [if_neg h1, if_neg (by omega), e2, show x + 1 - s = 0 by omega, z]; rw [e2] at hl; omega
        · obtain ⟨a, b, ha, hb, hab, hv⟩ := i x (y - s) h2 (by omega) (by omega)
          refine ⟨a, b + s, by omega, by omega, ?_, ?_⟩
          · unfold adj at *; omega
          · rw [if_neg (by omega), if_pos ha, show b + s - s = b by omega, hv]; omega
      · rw [if_neg h1, if_neg h2] at he ⊢
        have b := l (x - s) (y - s) (by omega) (by omega)
        by_cases hl : hil j (x - s) (y - s) + 1 = q
        · obtain ⟨e1, e2⟩ := e (x - s) (y - s) (by omega) (by omega) hl
          refine ⟨x, y - 1, by omega, by omega, Or.inr (Or.inr (Or.inr ⟨rfl, by omega⟩)), ?_⟩
          rw [if_pos (by omega), if_neg h2, show s - 1 - (y - 1) = 0 by omega, show 2 * s - 1 - x = 0 by omega, z]; omega
        · obtain ⟨a, b, ha, hb, hab, hv⟩ := i (x - s) (y - s) (by omega) (by omega) (by omega)
          refine ⟨a + s, b + s, by omega, by omega, ?_, ?_⟩
          · unfold adj at *; omega
          · rw [if_neg (by omega), if_neg (by omega), show a + s - s = a by omega, show b + s - s = b by omega, hv]; omega

end Go.Proofs.Qxb6000855a.Hil
