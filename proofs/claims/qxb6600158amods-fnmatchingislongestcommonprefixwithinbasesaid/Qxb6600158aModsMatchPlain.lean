/-
  THE PLAIN LAWS of matching: where each base starts.
-/
namespace Go.Proofs.Qxb6600158aMods.Plain

/-- Where base i starts: the lengths ahead of it. -/
def st (L : Nat → Nat) : Nat → Nat
  | 0 => 0
  | i + 1 => st L i + L i

theorem st_zero (L : Nat → Nat) : st L 0 = 0 := rfl
theorem st_succ (L : Nat → Nat) (i : Nat) : st L (i + 1) = st L i + L i := rfl
theorem st_add (L : Nat → Nat) (i : Nat) : ∀ d, st L i ≤ st L (i + d)
  | 0 => Nat.le_refl _
  | d + 1 => Nat.le_trans (st_add L i d) (by rw [← Nat.add_assoc, st_succ]; omega)
theorem st_mono (L : Nat → Nat) {i j : Nat} (h : i ≤ j) : st L i ≤ st L j := by
  have := st_add L i (j - i)
  rwa [Nat.add_sub_cancel' h] at this
theorem st_uniq (L : Nat → Nat) {b c p : Nat} (h1 : st L b ≤ p) (h2 : p < st L (b + 1)) (h3 : st L c ≤ p) (h4 : p < st L (c + 1)) : b = c := by
  rcases Nat.lt_trichotomy b c with h | h | h
  · have := st_mono L (show b + 1 ≤ c from h); omega
  · exact h
  · have := st_mono L (show c + 1 ≤ b from h); omega

end Go.Proofs.Qxb6600158aMods.Plain
