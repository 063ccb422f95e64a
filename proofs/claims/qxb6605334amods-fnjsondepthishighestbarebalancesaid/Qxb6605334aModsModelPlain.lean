/-
  THE PLAIN LAWS of the depth model: the bare brackets, and their highest balance.
-/
import Derived.Test.Qxb6605334aModsPlain
namespace Go.Proofs.Qxb6605334aMods.Plain

/-- The bare brackets: 40 for an opener, 41 for a closer. Modes as at 'jd'. -/
def br : Nat → List UInt8 → List Int
  | _, [] => []
  | 0, c :: r =>
    if (nb c == 34) = true then br 1 r
    else if (nb c == 123) = true ∨ (nb c == 91) = true then 40 :: br 0 r
    else if (nb c == 125) = true ∨ (nb c == 93) = true then 41 :: br 0 r
    else br 0 r
  | 1, c :: r => if (nb c == 92) = true then br 2 r else if (nb c == 34) = true then br 0 r else br 1 r
  | _ + 2, _ :: r => br 1 r

theorem br_nil (m : Nat) : br m [] = [] := by match m with | 0 => rfl | 1 => rfl | _ + 2 => rfl
theorem br_cons0 (c : UInt8) (r : List UInt8) : br 0 (c :: r) = if (nb c == 34) = true then br 1 r else if (nb c == 123) = true ∨ (nb c == 91) = true then 40 :: br 0 r else if (nb c == 125) = true ∨ (nb c == 93) = true then 41 :: br 0 r else br 0 r := rfl
theorem br_cons1 (c : UInt8) (r : List UInt8) : br 1 (c :: r) = if (nb c == 92) = true then br 2 r else if (nb c == 34) = true then br 0 r else br 1 r := rfl
theorem br_cons2 (c : UInt8) (r : List UInt8) : br 2 (c :: r) = br 1 r := rfl

theorem no {b : Bool} (h : b = false) : ¬ b = true := by rw [h]; decide
theorem br_quote (c : UInt8) (r : List UInt8) (h : (nb c == 34) = true) : br 0 (c :: r) = br 1 r := by rw [br_cons0, if_pos h]
theorem br_open (c : UInt8) (r : List UInt8) (h : (nb c == 34) = false) (h2 : (nb c == 123) = true ∨ (nb c == 91) = true) : br 0 (c :: r) = 40 :: br 0 r := by rw [br_cons0, if_neg (no h), if_pos h2]
theorem br_shut (c : UInt8) (r : List UInt8) (h : (nb c == 34) = false) (h2 : (nb c == 123) = false ∧ (nb c == 91) = false) (h3 : (nb c == 125) = true ∨ (nb c == 93) = true) : br 0 (c :: r) = 41 :: br 0 r := by
  rw [br_cons0, if_neg (no h), if_neg (by rw [h2.1, h2.2]; decide), if_pos h3]
theorem br_else (c : UInt8) (r : List UInt8) (h : (nb c == 34) = false) (h2 : (nb c == 123) = false ∧ (nb c == 91) = false) (h3 : (nb c == 125) = false ∧ (nb c == 93) = false) : br 0 (c :: r) = br 0 r := by
  rw [br_cons0, if_neg (no h), if_neg (by rw [h2.1, h2.2]; decide), if_neg (by rw [h3.1, h3.2]; decide)]
theorem br_esc (c : UInt8) (r : List UInt8) (h : (nb c == 92) = true) : br 1 (c :: r) = br 2 r := by rw [br_cons1, if_pos h]
theorem br_close (c : UInt8) (r : List UInt8) (h : (nb c == 92) = false) (h2 : (nb c == 34) = true) : br 1 (c :: r) = br 0 r := by rw [br_cons1, if_neg (no h), if_pos h2]
theorem br_in (c : UInt8) (r : List UInt8) (h : (nb c == 92) = false) (h2 : (nb c == 34) = false) : br 1 (c :: r) = br 1 r := by rw [br_cons1, if_neg (no h), if_neg (no h2)]

theorem br_le : ∀ (l : List UInt8) (m : Nat), (br m l).length ≤ l.length
  | [], m => by rw [br_nil]; exact Nat.le_refl _
  | c :: r, 0 => by
    have i0 := br_le r 0
    have i1 := br_le r 1
    rw [br_cons0, List.length_cons]
    split
    · omega
    · split
      · rw [List.length_cons]; omega
      · split
        · rw [List.length_cons]; omega
        · omega
  | c :: r, 1 => by
    have i0 := br_le r 0
    have i1 := br_le r 1
    have i2 := br_le r 2
    rw [br_cons1, List.length_cons]
    split
    · omega
    · split <;> omega
  | c :: r, m + 2 => by
    have i1 := br_le r 1
    show (br 1 r).length ≤ _
    rw [List.length_cons]; omega

/-- Every bracket is 40 or 41. -/
theorem br_mem : ∀ (l : List UInt8) (m : Nat) (x : Int), x ∈ br m l → x = 40 ∨ x = 41
  | [], m, x, h => by rw [br_nil] at h; simp at h
  | c :: r, 0, x, h => by
    have i0 := br_mem r 0 x
    have i1 := br_mem r 1 x
    rw [br_cons0] at h
    split at h
    · exact i1 h
    · split at h
      · rcases List.mem_cons.1 h with h | h
        · exact Or.inl h
        · exact i0 h
      · split at h
        · rcases List.mem_cons.1 h with h | h
          · exact Or.inr h
          · exact i0 h
        · exact i0 h
  | c :: r, 1, x, h => by
    have i0 := br_mem r 0 x
    have i1 := br_mem r 1 x
    have i2 := br_mem r 2 x
    rw [br_cons1] at h
    split at h
    · exact i2 h
    · split at h
      · exact i0 h
      · exact i1 h
  | c :: r, m + 2, x, h => br_mem r 1 x h

/-- The highest balance. -/
def dm : Int → Int → List Int → Int
  | _, best, [] => best
  | bal, best, x :: r => if (x == 40) = true then dm (bal + 1) (if best < bal + 1 then bal + 1 else best) r else dm (bal - 1) (if best < bal - 1 then bal - 1 else best) r

theorem dm_nil (bal best : Int) : dm bal best [] = best := rfl
theorem dm_cons (bal best x : Int) (r : List Int) : dm bal best (x :: r) = if (x == 40) = true then dm (bal + 1) (if best < bal + 1 then bal + 1 else best) r else dm (bal - 1) (if best < bal - 1 then bal - 1 else best) r := rfl

theorem dm_br : ∀ (l : List UInt8) (m : Nat) (d t : Int), d ≤ t → dm d t (br m l) = jd m d t l
  | [], m, d, t, _ => by rw [br_nil, jd_nil]; rfl
  | c :: r, 0, d, t, h => by
    rw [br_cons0, jd_cons0]
    split
    · exact dm_br r 1 d t h
    · split
      · rw [dm_cons, if_pos (by decide), dm_br r 0 (d + 1) _ (by split <;> omega)]
        congr 1
        split <;> omega
      · split
        · rw [dm_cons, if_neg (by decide), if_neg (by omega), dm_br r 0 (d - 1) t (by omega)]
        · exact dm_br r 0 d t h
  | c :: r, 1, d, t, h => by
    rw [br_cons1, jd_cons1]
    split
    · exact dm_br r 2 d t h
    · split
      · exact dm_br r 0 d t h
      · exact dm_br r 1 d t h
  | c :: r, m + 2, d, t, h => dm_br r 1 d t h

end Go.Proofs.Qxb6605334aMods.Plain
