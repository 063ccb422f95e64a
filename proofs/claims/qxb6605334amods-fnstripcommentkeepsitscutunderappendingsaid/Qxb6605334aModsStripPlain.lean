/-
  THE PLAIN LAWS of stripComment: lists of bytes, no Go in sight.
-/
import Derived.Test.Qxb6605334aModsPlain
namespace Go.Proofs.Qxb6605334aMods.Plain

/-- How many bytes stand ahead of the cut: 'q': the open quote, 0 where none is; 'esc': the next byte is escaped. -/
def cutN (q : Int) : Bool → List UInt8 → Nat
  | _, [] => 0
  | true, _ :: r => 1 + cutN q false r
  | false, c :: r =>
    if (q == 0) = true then
      if (nb c == 35) = true then 0
      else if (nb c == 34) = true ∨ (nb c == 39) = true then 1 + cutN (nb c) false r
      else 1 + cutN 0 false r
    else if (nb c == 92) = true then 1 + cutN q true r
    else if (nb c == q) = true then 1 + cutN 0 false r
    else 1 + cutN q false r

theorem cut_nil (q : Int) (e : Bool) : cutN q e [] = 0 := by cases e <;> rfl
theorem cut_true (q : Int) (c : UInt8) (r : List UInt8) : cutN q true (c :: r) = 1 + cutN q false r := rfl
theorem cut_cons (q : Int) (c : UInt8) (r : List UInt8) : cutN q false (c :: r) =
    if (q == 0) = true then
      if (nb c == 35) = true then 0
      else if (nb c == 34) = true ∨ (nb c == 39) = true then 1 + cutN (nb c) false r
      else 1 + cutN 0 false r
    else if (nb c == 92) = true then 1 + cutN q true r
    else if (nb c == q) = true then 1 + cutN 0 false r
    else 1 + cutN q false r := rfl

theorem ne_of_false {b : Bool} (h : b = false) : ¬ b = true := by rw [h]; decide

theorem cut_hash (q : Int) (c : UInt8) (r : List UInt8) (h0 : (q == 0) = true) (h : (nb c == 35) = true) : cutN q false (c :: r) = 0 := by
  rw [cut_cons, if_pos h0, if_pos h]
theorem cut_opens (q : Int) (c : UInt8) (r : List UInt8) (h0 : (q == 0) = true) (h : (nb c == 35) = false) (h2 : (nb c == 34) = true ∨ (nb c == 39) = true) : cutN q false (c :: r) = 1 + cutN (nb c) false r := by
  rw [cut_cons, if_pos h0, if_neg (ne_of_false h), if_pos h2]
theorem cut_plain (q : Int) (c : UInt8) (r : List UInt8) (h0 : (q == 0) = true) (h : (nb c == 35) = false) (h2 : (nb c == 34) = false) (h3 : (nb c == 39) = false) : cutN q false (c :: r) = 1 + cutN 0 false r := by
  rw [cut_cons, if_pos h0, if_neg (ne_of_false h), if_neg (by rw [h2, h3]; decide)]
theorem cut_esc (q : Int) (c : UInt8) (r : List UInt8) (h0 : (q == 0) = false) (h : (nb c == 92) = true) : cutN q false (c :: r) = 1 + cutN q true r := by
  rw [cut_cons, if_neg (ne_of_false h0), if_pos h]
theorem cut_closes (q : Int) (c : UInt8) (r : List UInt8) (h0 : (q == 0) = false) (h : (nb c == 92) = false) (h2 : (nb c == q) = true) : cutN q false (c :: r) = 1 + cutN 0 false r := by
  rw [cut_cons, if_neg (ne_of_false h0), if_neg (ne_of_false h), if_pos h2]
theorem cut_in (q : Int) (c : UInt8) (r : List UInt8) (h0 : (q == 0) = false) (h : (nb c == 92) = false) (h2 : (nb c == q) = false) : cutN q false (c :: r) = 1 + cutN q false r := by
  rw [cut_cons, if_neg (ne_of_false h0), if_neg (ne_of_false h), if_neg (ne_of_false h2)]

/-- The ways that a byte can go, with what is left to do. -/
theorem cut_ways (q : Int) (e : Bool) (c : UInt8) : (∀ r, cutN q e (c :: r) = 0) ∨ ∃ (q' : Int) (e' : Bool), ∀ r, cutN q e (c :: r) = 1 + cutN q' e' r := by
  cases e with
  | true => exact Or.inr ⟨q, false, fun r => rfl⟩
  | false =>
    by_cases h0 : (q == 0) = true
    · by_cases h : (nb c == 35) = true
      · exact Or.inl fun r => cut_hash q c r h0 h
      · have h : (nb c == 35) = false := by simpa using h
        by_cases h2 : (nb c == 34) = true ∨ (nb c == 39) = true
        · exact Or.inr ⟨nb c, false, fun r => cut_opens q c r h0 h h2⟩
        · refine Or.inr ⟨0, false, fun r => ?_⟩
          rw [cut_cons, if_pos h0, if_neg (ne_of_false h), if_neg h2]
    · have h0 : (q == 0) = false := by simpa using h0
      by_cases h : (nb c == 92) = true
      · exact Or.inr ⟨q, true, fun r => cut_esc q c r h0 h⟩
      · have h : (nb c == 92) = false := by simpa using h
        by_cases h2 : (nb c == q) = true
        · exact Or.inr ⟨0, false, fun r => cut_closes q c r h0 h h2⟩
        · have h2 : (nb c == q) = false := by simpa using h2
          exact Or.inr ⟨q, false, fun r => cut_in q c r h0 h h2⟩

theorem cut_le : ∀ (l : List UInt8) (q : Int) (e : Bool), cutN q e l ≤ l.length
  | [], q, e => by rw [cut_nil]; exact Nat.zero_le _
  | c :: r, q, e => by
    rw [List.length_cons]
    rcases cut_ways q e c with h | ⟨q', e', h⟩
    · rw [h]; omega
    · have := cut_le r q' e'; rw [h]; omega

/-- What was kept is kept whole. -/
theorem cut_take : ∀ (l : List UInt8) (q : Int) (e : Bool), cutN q e (l.take (cutN q e l)) = cutN q e l
  | [], q, e => by rw [cut_nil, List.take_nil, cut_nil]
  | c :: r, q, e => by
    rcases cut_ways q e c with h | ⟨q', e', h⟩
    · rw [h, List.take_zero, cut_nil]
    · rw [h, Nat.add_comm 1, List.take_succ_cons, h, cut_take r q' e', Nat.add_comm 1]

theorem cut_append_lt : ∀ (l m : List UInt8) (q : Int) (e : Bool), cutN q e l < l.length → cutN q e (l ++ m) = cutN q e l
  | [], m, q, e, h => by simp at h
  | c :: r, m, q, e, hl => by
    rcases cut_ways q e c with h | ⟨q', e', h⟩
    · rw [List.cons_append, h, h]
    · rw [h, List.length_cons] at hl
      rw [List.cons_append, h, h, cut_append_lt r m q' e' (by omega)]

theorem cut_append_ge : ∀ (l m : List UInt8) (q : Int) (e : Bool), l.length ≤ cutN q e l → l.length ≤ cutN q e (l ++ m)
  | [], m, q, e, h => Nat.zero_le _
  | c :: r, m, q, e, hl => by
    rcases cut_ways q e c with h | ⟨q', e', h⟩
    · rw [h, List.length_cons] at hl; omega
    · rw [h, List.length_cons] at hl
      have := cut_append_ge r m q' e' (by omega)
      rw [List.cons_append, h, List.length_cons]; omega

theorem skip_le (q : Int) : ∀ (l : List UInt8) (e : Bool), (skip q e l).length ≤ l.length
  | [], e => by rw [skip_nil]; exact Nat.le_refl _
  | c :: r, true => by rw [skip_true, List.length_cons]; have := skip_le q r false; omega
  | c :: r, false => by
    have i1 := skip_le q r true
    have i2 := skip_le q r false
    rw [List.length_cons]
    by_cases h : (nb c == 92) = true
    · rw [skip_esc q c r h]; omega
    · have h : (nb c == 92) = false := by simpa using h
      by_cases h2 : (nb c == q) = true
      · rw [skip_end q c r h h2]; omega
      · have h2 : (nb c == q) = false := by simpa using h2
        rw [skip_on q c r h h2]; omega

/-- A quoted string is skipped whole. -/
theorem cut_skip (q : Int) (h0 : (q == 0) = false) : ∀ (l : List UInt8) (e : Bool), cutN q e l + (skip q e l).length = l.length + cutN 0 false (skip q e l)
  | [], e => by rw [skip_nil, cut_nil, cut_nil, Nat.add_comm]
  | c :: r, true => by
    have := cut_skip q h0 r false
    rw [skip_true, cut_true, List.length_cons]; omega
  | c :: r, false => by
    have i1 := cut_skip q h0 r true
    have i2 := cut_skip q h0 r false
    rw [List.length_cons]
    by_cases h : (nb c == 92) = true
    · rw [skip_esc q c r h, cut_esc q c r h0 h]; omega
    · have h : (nb c == 92) = false := by simpa using h
      by_cases h2 : (nb c == q) = true
      · rw [skip_end q c r h h2, cut_closes q c r h0 h h2]; omega
      · have h2 : (nb c == q) = false := by simpa using h2
        rw [skip_on q c r h h2, cut_in q c r h0 h h2]; omega

/-! ### The same of byte arrays -/
def cutOf (s : ByteArray) : Nat := cutN 0 false s.data.toList
def strip (s : ByteArray) : ByteArray := s.extract 0 (cutOf s)

theorem len_list (s : ByteArray) : s.data.toList.length = s.size := by rw [Array.length_toList]; rfl
theorem cutOf_le (s : ByteArray) : cutOf s ≤ s.size := by have := cut_le s.data.toList 0 false; rw [len_list] at this; exact this
theorem strip_list (s : ByteArray) : (strip s).data.toList = s.data.toList.take (cutOf s) := by
  unfold strip; simp [ByteArray.data_extract]
theorem strip_size (s : ByteArray) : (strip s).size = cutOf s := by
  have h := cutOf_le s
  rw [← len_list, strip_list, List.length_take, len_list]; omega
theorem arr_ext {a b : ByteArray} (h : a.data.toList = b.data.toList) : a = b := by
  cases a; cases b; simp at h; simp [h]
theorem extract_all (s : ByteArray) : s.extract 0 s.size = s := arr_ext (by simp)
theorem strip_strip (s : ByteArray) : strip (strip s) = strip s := by
  apply arr_ext
  have e : cutOf (strip s) = cutOf s := by
    show cutN 0 false (strip s).data.toList = _
    rw [strip_list]; exact cut_take s.data.toList 0 false
  rw [strip_list, e, strip_list, List.take_take, Nat.min_self]
theorem append_list (a b : ByteArray) : (a ++ b).data.toList = a.data.toList ++ b.data.toList := by simp
theorem strip_append_cut (a b : ByteArray) (h : (strip a).size < a.size) : strip (a ++ b) = strip a := by
  rw [strip_size] at h
  have e : cutOf (a ++ b) = cutOf a := by
    show cutN 0 false (a ++ b).data.toList = _
    rw [append_list]
    exact cut_append_lt _ _ 0 false (by rw [len_list]; exact h)
  apply arr_ext
  rw [strip_list, strip_list, e, append_list, List.take_append_of_le_length (by rw [len_list]; omega)]
theorem strip_append_keep (a b : ByteArray) (h : ¬ (strip a).size < a.size) : a.size ≤ (strip (a ++ b)).size ∧ (strip (a ++ b)).extract 0 a.size = a := by
  rw [strip_size] at h
  have e : a.size ≤ cutOf (a ++ b) := by
    show _ ≤ cutN 0 false (a ++ b).data.toList
    rw [append_list, ← len_list]
    exact cut_append_ge _ _ 0 false (by rw [len_list]; exact Nat.le_of_not_lt h)
  refine ⟨by rw [strip_size]; exact e, ?_⟩
  apply arr_ext
  have e1 : ((strip (a ++ b)).extract 0 a.size).data.toList = (strip (a ++ b)).data.toList.take a.size := by simp [ByteArray.data_extract]
  rw [e1, strip_list, append_list, List.take_take, Nat.min_eq_left e, List.take_append_of_le_length (by rw [len_list]; omega), List.take_of_length_le (by rw [len_list]; omega)]

end Go.Proofs.Qxb6605334aMods.Plain
