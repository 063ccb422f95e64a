/-
  THE PLAIN LAWS of looksRandom: counts and their squares, no Go in sight.
-/
namespace Go.Proofs.Qxb6600158aMods.Plain

/-- How often the value v stands among the first j samples (every 31st byte of f). -/
def cnt (f : Nat → Int) : Nat → Nat → Int
  | 0, _ => 0
  | j + 1, v => cnt f j v + if v = (f (31 * j)).toNat then 1 else 0

theorem cnt_zero (f : Nat → Int) (v : Nat) : cnt f 0 v = 0 := rfl
theorem cnt_succ (f : Nat → Int) (j v : Nat) : cnt f (j + 1) v = cnt f j v + if v = (f (31 * j)).toNat then 1 else 0 := rfl
theorem cnt_bounds (f : Nat → Int) : ∀ (j v : Nat), 0 ≤ cnt f j v ∧ cnt f j v ≤ j
  | 0, v => by rw [cnt_zero]; omega
  | j + 1, v => by
    have := cnt_bounds f j v
    rw [cnt_succ]
    split <;> omega

/-- The sum of the first k squares. -/
def ss (g : Nat → Int) : Nat → Int
  | 0 => 0
  | k + 1 => ss g k + g k * g k

theorem ss_succ (g : Nat → Int) (k : Nat) : ss g (k + 1) = ss g k + g k * g k := rfl

theorem ss_bounds (g : Nat → Int) (N : Int) (h : ∀ v, 0 ≤ g v ∧ g v ≤ N) : ∀ k : Nat, 0 ≤ ss g k ∧ ss g k ≤ k * (N * N)
  | 0 => by simp [ss]
  | k + 1 => by
    have ih := ss_bounds g N h k
    have h1 : 0 ≤ g k * g k := Int.mul_nonneg (h k).1 (h k).1
    have h2 : g k * g k ≤ N * N := Int.mul_le_mul (h k).2 (h k).2 (h k).1 (Int.le_trans (h k).1 (h k).2)
    have e : ((k + 1 : Nat) : Int) * (N * N) = (k : Int) * (N * N) + N * N := by rw [Int.natCast_add, Int.add_mul]; simp
    rw [ss_succ, e]
    omega

/-- One more at place x. -/
theorem ss_step (g g' : Nat → Int) (x : Nat) (h : ∀ v, g' v = g v + if v = x then 1 else 0) : ∀ k : Nat, ss g' k = ss g k + if x < k then 2 * g x + 1 else 0
  | 0 => by simp [ss]
  | k + 1 => by
    have ih := ss_step g g' x h k
    rw [ss_succ, ss_succ, ih, h k]
    by_cases hk : k = x
    · subst hk
      rw [if_pos rfl, if_neg (Nat.lt_irrefl k), if_pos (Nat.lt_succ_self k)]
      have e : (g k + 1) * (g k + 1) = g k * g k + 2 * g k + 1 := by
        rw [Int.add_mul, Int.mul_add, Int.mul_one, Int.one_mul]; omega
      rw [e]; omega
    · rw [if_neg hk, Int.add_zero]
      by_cases hx : x < k
      · rw [if_pos hx, if_pos (by omega)]; omega
      · rw [if_neg hx, if_neg (by omega)]; omega

theorem ss_cnt_succ (f : Nat → Int) (j : Nat) (h : (f (31 * j)).toNat < 256) : ss (cnt f (j + 1)) 256 = ss (cnt f j) 256 + (2 * cnt f j (f (31 * j)).toNat + 1) := by
  rw [ss_step (cnt f j) (cnt f (j + 1)) (f (31 * j)).toNat (fun v => rfl) 256, if_pos h]

theorem ss_cnt_zero (f : Nat → Int) : ∀ k, ss (cnt f 0) k = 0
  | 0 => rfl
  | k + 1 => by rw [ss_succ, ss_cnt_zero f k, cnt_zero]; rfl

/-! ### One byte alone -/
theorem cnt_const (f : Nat → Int) (c : Int) (h : ∀ k, f k = c) : ∀ j : Nat, cnt f j c.toNat = j
  | 0 => rfl
  | j + 1 => by rw [cnt_succ, cnt_const f c h j, h, if_pos rfl]; simp

theorem ss_const (f : Nat → Int) (c : Int) (h : ∀ k, f k = c) (hc : c.toNat < 256) : ∀ j : Nat, ss (cnt f j) 256 = (j : Int) * j
  | 0 => by rw [ss_cnt_zero]; rfl
  | j + 1 => by
    rw [ss_cnt_succ f j (by rw [h]; exact hc), ss_const f c h hc j, h, cnt_const f c h j, Int.natCast_add, Int.add_mul, Int.mul_add]
    simp only [Int.natCast_one, Int.mul_one, Int.one_mul]
    omega

/-- What looksRandom answers, of m samples. -/
def lr (f : Nat → Int) (m : Nat) : Bool := decide (256 * ss (cnt f m) 256 < (m : Int) * ((m : Int) + 512))

theorem lr_const (f : Nat → Int) (c : Int) (h : ∀ k, f k = c) (hc : c.toNat < 256) (m : Nat) : lr f m = decide (1 ≤ m ∧ m ≤ 2) := by
  unfold lr
  rw [ss_const f c h hc m]
  apply decide_eq_decide.2
  have e1 : (m : Int) * ((m : Int) + 512) = (m : Int) * m + 512 * m := by rw [Int.mul_add, Int.mul_comm (m : Int) 512]
  rw [e1]
  constructor
  · intro hl
    refine ⟨?_, ?_⟩
    · rcases Nat.eq_zero_or_pos m with h0 | h0
      · subst h0; simp at hl
      · exact h0
    · rcases Nat.lt_or_ge 2 m with h2 | h2
      · have h3 : (3 : Int) * m ≤ (m : Int) * m := Int.mul_le_mul_of_nonneg_right (by omega) (by omega)
        omega
      · exact h2
  · rintro ⟨h1, h2⟩
    have h3 : (m : Int) * m ≤ 2 * m := Int.mul_le_mul_of_nonneg_right (by omega) (by omega)
    have h4 : (m : Int) * m ≥ 0 := Int.mul_nonneg (by omega) (by omega)
    rcases (by omega : m = 1 ∨ m = 2) with e | e <;> subst e <;> decide

/-! ### Samples that run 0, 1, .., 255, 0, 1, .. -/
theorem cnt_even (f : Nat → Int) (m : Nat) (h : ∀ j, j < m → f (31 * j) = ((j % 256 : Nat) : Int)) : ∀ j : Nat, j ≤ m → ∀ v, v < 256 → cnt f j v = (((j + 255 - v) / 256 : Nat) : Int)
  | 0, _, v, hv => by rw [cnt_zero]; omega
  | j + 1, hj, v, hv => by
    rw [cnt_succ, cnt_even f m h j (by omega) v hv, h j (by omega), Int.toNat_natCast]
    split <;> omega

theorem ss_even (f : Nat → Int) (m : Nat) (h : ∀ j, j < m → f (31 * j) = ((j % 256 : Nat) : Int)) : ∀ j : Nat, j ≤ m → 256 * ss (cnt f j) 256 ≤ (j : Int) * j + 256 * j
  | 0, _ => by rw [ss_cnt_zero]; decide
  | j + 1, hj => by
    have ih := ss_even f m h j (by omega)
    have e := h j (by omega)
    have e2 : (f (31 * j)).toNat = j % 256 := by rw [e, Int.toNat_natCast]
    rw [ss_cnt_succ f j (by rw [e2]; omega), e2, cnt_even f m h j (by omega) (j % 256) (by omega)]
    have e3 : ((j + 1 : Nat) : Int) * ((j + 1 : Nat) : Int) = (j : Int) * j + 2 * j + 1 := by
      rw [Int.natCast_add, Int.add_mul, Int.mul_add]; simp only [Int.natCast_one, Int.mul_one, Int.one_mul]; omega
    rw [e3]
    omega

theorem lr_even (f : Nat → Int) (m : Nat) (h : ∀ j, j < m → f (31 * j) = ((j % 256 : Nat) : Int)) : lr f m = decide (0 < m) := by
  unfold lr
  apply decide_eq_decide.2
  have e1 : (m : Int) * ((m : Int) + 512) = (m : Int) * m + 512 * m := by rw [Int.mul_add, Int.mul_comm (m : Int) 512]
  rw [e1]
  have hs := ss_even f m h m (Nat.le_refl _)
  constructor
  · intro hl
    rcases Nat.eq_zero_or_pos m with h0 | h0
    · subst h0; rw [ss_cnt_zero] at hl; simp at hl
    · exact h0
  · intro h0
    omega

end Go.Proofs.Qxb6600158aMods.Plain
