/-
  THE WALKS of isLowerHex, ZZIsLowerHex, zzHexDigit.
-/
import Derived.Test.Qxb6600158aModsRows
import Derived.WalkKit
import Derived.WalkSpells
import Derived.WalkLawsBesides
import Derived.Laws.RangeString
import Derived.Deep.LoopGhost
namespace Go.Proofs.Qxb6600158aMods
open Go.RowKit

/-- A lower-case hex digit, as a number. -/
def okc (n : Int) : Bool := (decide (48 ≤ n) && decide (n ≤ 57)) || (decide (97 ≤ n) && decide (n ≤ 102))
def hexAll (s : ByteArray) : Bool := s.data.toList.all fun c => okc (c.toNat : Int)

theorem ret_int {k : IntKind} {a b : Int} (h : a = b) : Ending.returned (.int k a) = .returned (.int k b) := by rw [h]
theorem okc_yes {n : Int} (h : (48 ≤ n ∧ n ≤ 57) ∨ (97 ≤ n ∧ n ≤ 102)) : okc n = true := by
  unfold okc; simp; omega
theorem okc_no {n : Int} (h : ¬ ((48 ≤ n ∧ n ≤ 57) ∨ (97 ≤ n ∧ n ≤ 102))) : okc n = false := by
  unfold okc; simp; omega

theorem drop_at (s : ByteArray) (k : Nat) (h : k < s.size) : s.data.toList.drop k = s[k] :: s.data.toList.drop (k + 1) := by
  rw [List.drop_eq_getElem_cons (by simpa using h)]; rfl
theorem drop_out (s : ByteArray) (k : Nat) (h : s.size ≤ k) : s.data.toList.drop k = [] := List.drop_of_length_le (by simpa using h)

theorem hex_no (s : ByteArray) (k : Nat) (hlt : k < s.size) (H : (s.data.toList.drop k).all (fun c => okc (c.toNat : Int)) = hexAll s)
    (D : s.data.toList.drop k = s[k] :: s.data.toList.drop (k + 1)) (h : okc (s[k].toNat : Int) = false) : hexAll s = false := by
  rw [← H, D, List.all_cons, h, Bool.false_and]
theorem hex_on (s : ByteArray) (k : Nat) (hlt : k < s.size) (H : (s.data.toList.drop k).all (fun c => okc (c.toNat : Int)) = hexAll s)
    (D : s.data.toList.drop k = s[k] :: s.data.toList.drop (k + 1)) (h : okc (s[k].toNat : Int) = true) : (s.data.toList.drop (k + 1)).all (fun c => okc (c.toNat : Int)) = hexAll s := by
  rw [← H, D, List.all_cons, h, Bool.true_and]

set_option maxHeartbeats 400000 in
theorem isLowerHex_any (s : ByteArray) (w : World) (ha : ∀ (k : Nat) (h : k < s.size), (s[k]'h).toNat < 128) :
    Calls Trym.prog 25 #[.string s] w fun e w' => e = .returned (.bool (hexAll s)) ∧ ∃ p, w' = w.iter s p := by
  have HA : Hid (∀ (k : Nat) (h : k < s.size), (s[k]'h).toNat < 128) := ha
  clear ha
  go_enter Trym.func25, Trym.ntmps25
  go_wp2
  go_loopg [4] s.size (fun g _ wr => ∃ k : Nat, k + g = s.size ∧ Hid ((s.data.toList.drop k).all (fun c => okc (c.toNat : Int)) = hexAll s) ∧ wr = w.iter s k)
  case atStart => exact ⟨0, by omega, (rfl : _ = _), rfl⟩
  case round =>
    obtain ⟨k, hkg, H, rfl⟩ := hrel
    by_cases hlt : k < s.size
    · have hx128 := HA.out k hlt
      have hnx := fun ty => run_next_ascii (P := Trym.prog) w s k ty hlt hx128
      have D : Hid (s.data.toList.drop k = s[k] :: s.data.toList.drop (k + 1)) := drop_at s k hlt
      go_wp2
      · go_ret
        exact ⟨by rw [hex_no s k hlt H.out D.out (okc_no (by omega))]; rfl, k + 1, rfl⟩
      · go_roundg (gk - 1)
        case measure => omega
        case rel => exact ⟨k + 1, by omega, hex_on s k hlt H.out D.out (okc_yes (by omega)), rfl⟩
      · go_ret
        exact ⟨by rw [hex_no s k hlt H.out D.out (okc_no (by omega))]; rfl, k + 1, rfl⟩
      · go_roundg (gk - 1)
        case measure => omega
        case rel => exact ⟨k + 1, by omega, hex_on s k hlt H.out D.out (okc_yes (by omega)), rfl⟩
      · go_ret
        exact ⟨by rw [hex_no s k hlt H.out D.out (okc_no (by omega))]; rfl, k + 1, rfl⟩
    · have hnx := fun ty => run_next_end (P := Trym.prog) w s k ty hlt
      go_wp2
      go_ret
      have hh := H.out
      rw [drop_out s k (by omega)] at hh
      exact ⟨by rw [← hh]; rfl, k, rfl⟩

theorem below_iter (w : World) (s : ByteArray) (p : Nat) : Below w.heap.size w (w.iter s p) := (Below.refl _ _).alloc (Nat.le_refl _) _

theorem ZZIsLowerHex_any (s : ByteArray) (w : World) (ha : ∀ (k : Nat) (h : k < s.size), (s[k]'h).toNat < 128) :
    Calls Trym.prog 11 #[.string s] w fun e w' => e = .returned (.bool (hexAll s)) ∧ Below w.heap.size w w' := by
  have HA : Hid (∀ (k : Nat) (h : k < s.size), (s[k]'h).toNat < 128) := ha
  clear ha
  go_enter Trym.func11, Trym.ntmps11
  go_wp2_with fail
  refine (isLowerHex_any s w HA.out).mono ?_
  rintro e w1 ⟨rfl, p, rfl⟩
  go_wp2
  go_ret
  exact ⟨rfl, below_iter _ _ _⟩

/-- The digit that zzHexDigit gives. -/
def dig (v : Int) (up : Bool) : Int := if v < 10 then 48 + v else if up = true then 55 + v else 87 + v

theorem hexDigit_any (v : Int) (up : Bool) (w : World) (h0 : 0 ≤ v) (h1 : v ≤ 15) :
    Calls Trym.prog 14 #[.int .u8 v, .bool up] w fun e w' => e = .returned (.int .u8 (dig v up)) ∧ w = w' := by
  by_cases h : v < 10
  · go_enter Trym.func14, Trym.ntmps14
    go_wp2
    go_ret
    exact ⟨ret_int (by unfold dig; rw [if_pos h]), rfl⟩
  · cases up
    · go_enter Trym.func14, Trym.ntmps14
      go_wp2
      go_ret
      exact ⟨ret_int (by unfold dig; rw [if_neg (by omega), if_neg (by decide)]; omega), rfl⟩
    · go_enter Trym.func14, Trym.ntmps14
      go_wp2
      go_ret
      exact ⟨ret_int (by unfold dig; rw [if_neg (by omega), if_pos rfl]; omega), rfl⟩

end Go.Proofs.Qxb6600158aMods
