/-
  THE PLAIN LAWS: lists of bytes, no Go in sight.
-/
namespace Go.Proofs.Qxb6605334aMods.Plain

/-- A byte as a number. -/
abbrev nb (c : UInt8) : Int := (c.toNat : Int)

/-- What is left behind a quoted string that has been opened with 'q' ('esc': the next byte is escaped). -/
def skip (q : Int) : Bool → List UInt8 → List UInt8
  | _, [] => []
  | true, _ :: r => skip q false r
  | false, c :: r => if (nb c == 92) = true then skip q true r else if (nb c == q) = true then r else skip q false r

theorem skip_nil (q : Int) (b : Bool) : skip q b [] = [] := by cases b <;> rfl
theorem skip_true (q : Int) (c : UInt8) (r : List UInt8) : skip q true (c :: r) = skip q false r := rfl
theorem skip_esc (q : Int) (c : UInt8) (r : List UInt8) (h : (nb c == 92) = true) : skip q false (c :: r) = skip q true r := by
  simp only [skip, h, if_true]
theorem skip_end (q : Int) (c : UInt8) (r : List UInt8) (h : (nb c == 92) = false) (h2 : (nb c == q) = true) : skip q false (c :: r) = r := by
  simp only [skip, h, h2, if_true]; rfl
theorem skip_on (q : Int) (c : UInt8) (r : List UInt8) (h : (nb c == 92) = false) (h2 : (nb c == q) = false) : skip q false (c :: r) = skip q false r := by
  simp only [skip, h, h2]; rfl
/-- An escape: two bytes at once. -/
theorem skip_esc2 (q : Int) (c : UInt8) (r : List UInt8) (h : (nb c == 92) = true) : skip q false (c :: r) = skip q false (r.drop 1) := by
  rw [skip_esc q c r h]
  cases r with
  | nil => rfl
  | cons d r => rfl

/-! ### jsonDepth, byte by byte: mode 0: bare; 1: in a string; 2: escaped in a string -/
def jd : Nat → Int → Int → List UInt8 → Int
  | _, _, top, [] => top
  | 0, d, top, c :: r =>
    if (nb c == 34) = true then jd 1 d top r
    else if (nb c == 123) = true ∨ (nb c == 91) = true then jd 0 (d + 1) (max top (d + 1)) r
    else if (nb c == 125) = true ∨ (nb c == 93) = true then jd 0 (d - 1) top r
    else jd 0 d top r
  | 1, d, top, c :: r => if (nb c == 92) = true then jd 2 d top r else if (nb c == 34) = true then jd 0 d top r else jd 1 d top r
  | _ + 2, d, top, _ :: r => jd 1 d top r

theorem jd_cons0 (d t : Int) (c : UInt8) (r : List UInt8) : jd 0 d t (c :: r) = if (nb c == 34) = true then jd 1 d t r else if (nb c == 123) = true ∨ (nb c == 91) = true then jd 0 (d + 1) (max t (d + 1)) r else if (nb c == 125) = true ∨ (nb c == 93) = true then jd 0 (d - 1) t r else jd 0 d t r := rfl
theorem jd_cons1 (d t : Int) (c : UInt8) (r : List UInt8) : jd 1 d t (c :: r) = if (nb c == 92) = true then jd 2 d t r else if (nb c == 34) = true then jd 0 d t r else jd 1 d t r := rfl
theorem jd_cons2 (m : Nat) (d t : Int) (c : UInt8) (r : List UInt8) : jd (m + 2) d t (c :: r) = jd 1 d t r := rfl
theorem jd_nil (m : Nat) (d t : Int) : jd m d t [] = t := by match m with | 0 => rfl | 1 => rfl | _ + 2 => rfl

theorem jd_skip (d t : Int) : ∀ (l : List UInt8), jd 1 d t l = jd 0 d t (skip 34 false l) ∧ jd 2 d t l = jd 0 d t (skip 34 true l)
  | [] => ⟨rfl, rfl⟩
  | c :: r => by
    have ih := jd_skip d t r
    refine ⟨?_, ih.1⟩
    show (if (nb c == 92) = true then jd 2 d t r else if (nb c == 34) = true then jd 0 d t r else jd 1 d t r) = jd 0 d t (if (nb c == 92) = true then skip 34 true r else if (nb c == 34) = true then r else skip 34 false r)
    by_cases h1 : (nb c == 92) = true
    · rw [if_pos h1, if_pos h1]; exact ih.2
    · rw [if_neg h1, if_neg h1]
      by_cases h2 : (nb c == 34) = true
      · rw [if_pos h2, if_pos h2]
      · rw [if_neg h2, if_neg h2]; exact ih.1

theorem jd_quote (d t : Int) (c : UInt8) (r : List UInt8) (h : (nb c == 34) = true) : jd 0 d t (c :: r) = jd 0 d t (skip 34 false r) := by
  rw [← (jd_skip d t r).1]; simp only [jd, h, if_true]
theorem jd_open (d t : Int) (c : UInt8) (r : List UInt8) (h : (nb c == 34) = false) (h2 : (nb c == 123) = true ∨ (nb c == 91) = true) : jd 0 d t (c :: r) = jd 0 (d + 1) (max t (d + 1)) r := by
  rw [jd_cons0, if_neg (by rw [h]; decide), if_pos h2]
theorem jd_shut (d t : Int) (c : UInt8) (r : List UInt8) (h : (nb c == 34) = false) (h1 : (nb c == 123) = false) (h2 : (nb c == 91) = false) (h3 : (nb c == 125) = true ∨ (nb c == 93) = true) : jd 0 d t (c :: r) = jd 0 (d - 1) t r := by
  rw [jd_cons0, if_neg (by rw [h]; decide), if_neg (by rw [h1, h2]; decide), if_pos h3]
theorem jd_else (d t : Int) (c : UInt8) (r : List UInt8) (h : (nb c == 34) = false) (h1 : (nb c == 123) = false) (h2 : (nb c == 91) = false) (h3 : (nb c == 125) = false) (h4 : (nb c == 93) = false) : jd 0 d t (c :: r) = jd 0 d t r := by
  rw [jd_cons0, if_neg (by rw [h]; decide), if_neg (by rw [h1, h2]; decide), if_neg (by rw [h3, h4]; decide)]

/-- One deeper from the start: one deeper at the end. -/
theorem jd_up : ∀ (l : List UInt8) (m : Nat) (d t : Int), jd m (d + 1) (t + 1) l = jd m d t l + 1
  | [], m, d, t => by rw [jd_nil, jd_nil]
  | c :: r, 0, d, t => by
    have ih := jd_up r
    have e1 : max (t + 1) (d + 1 + 1) = max t (d + 1) + 1 := by omega
    have e2 : d + 1 - 1 = d - 1 + 1 := by omega
    rw [jd_cons0, jd_cons0, e1, e2, ih, ih, ih, ih]
    split
    · rfl
    · split
      · rfl
      · split <;> rfl
  | c :: r, 1, d, t => by
    have ih := jd_up r
    rw [jd_cons1, jd_cons1, ih, ih, ih]
    split
    · rfl
    · split <;> rfl
  | c :: r, m + 2, d, t => jd_up r 1 d t

/-- A closing bracket behind the text adds nothing. -/
theorem jd_tail (x : UInt8) (h : nb x = 125 ∨ nb x = 93) : ∀ (l : List UInt8) (m : Nat) (d t : Int), jd m d t (l ++ [x]) = jd m d t l
  | [], 0, d, t => by
    have e : jd 0 d t [x] = jd 0 (d - 1) t [] := jd_shut d t x [] (by rcases h with h | h <;> simp [h]) (by rcases h with h | h <;> simp [h]) (by rcases h with h | h <;> simp [h]) (by rcases h with h | h <;> simp [h])
    show jd 0 d t [x] = _
    rw [e]; rfl
  | [], 1, d, t => by
    show (if (nb x == 92) = true then t else if (nb x == 34) = true then t else t) = t
    split
    · rfl
    · split <;> rfl
  | [], _ + 2, d, t => rfl
  | c :: r, 0, d, t => by
    have ih := jd_tail x h r
    rw [List.cons_append, jd_cons0, jd_cons0, ih, ih, ih, ih]
  | c :: r, 1, d, t => by
    have ih := jd_tail x h r
    rw [List.cons_append, jd_cons1, jd_cons1, ih, ih, ih]
  | c :: r, m + 2, d, t => jd_tail x h r 1 d t

/-- THE LAW. -/
theorem jd_wrap (o x : UInt8) (ho : nb o = 123 ∨ nb o = 91) (hx : nb x = 125 ∨ nb x = 93) (l : List UInt8) : jd 0 0 0 (o :: (l ++ [x])) = jd 0 0 0 l + 1 := by
  rw [jd_open 0 0 o _ (by rcases ho with h | h <;> simp [h]) (by rcases ho with h | h <;> simp [h])]
  have e : max (0 : Int) (0 + 1) = 0 + 1 := by omega
  rw [e, jd_up, jd_tail x hx]

theorem jd_bounds : ∀ (l : List UInt8) (m : Nat) (d t : Int), t ≤ jd m d t l ∧ jd m d t l ≤ max t (d + l.length)
  | [], m, d, t => by rw [jd_nil]; simp only [List.length_nil]; omega
  | c :: r, 0, d, t => by
    have i1 := jd_bounds r 1 d t
    have i2 := jd_bounds r 0 (d + 1) (max t (d + 1))
    have i3 := jd_bounds r 0 (d - 1) t
    have i4 := jd_bounds r 0 d t
    rw [jd_cons0]
    simp only [List.length_cons]
    split
    · omega
    · split
      · omega
      · split <;> omega
  | c :: r, 1, d, t => by
    have i1 := jd_bounds r 1 d t
    have i2 := jd_bounds r 0 d t
    have i3 := jd_bounds r 2 d t
    rw [jd_cons1]
    simp only [List.length_cons]
    split
    · omega
    · split <;> omega
  | c :: r, m + 2, d, t => by
    have i1 := jd_bounds r 1 d t
    show t ≤ jd 1 d t r ∧ jd 1 d t r ≤ _
    simp only [List.length_cons]
    omega

end Go.Proofs.Qxb6605334aMods.Plain
