/-
  THE WALKS of stringEnd, jsonDepth, ZZjsonDepth.
-/
import Derived.Test.Qxb6605334aModsRows
import Derived.Test.Qxb6605334aModsPlain
import Derived.WalkKit
import Derived.WalkSpells
import Derived.WalkLawsBesides
namespace Go.Proofs.Qxb6605334aMods
open Go.RowKit Plain

theorem drop_at (s : ByteArray) (k : Nat) (h : k < s.size) : s.data.toList.drop k = s[k] :: s.data.toList.drop (k + 1) := by
  rw [List.drop_eq_getElem_cons (by simpa using h)]; rfl
theorem drop_out (s : ByteArray) (k : Nat) (h : s.size ≤ k) : s.data.toList.drop k = [] := List.drop_of_length_le (by simpa using h)
theorem drop_two (s : ByteArray) (k : Nat) : (s.data.toList.drop (k + 1)).drop 1 = s.data.toList.drop (k + 2) := by rw [List.drop_drop]
theorem ret_int {k : IntKind} {a b : Int} (h : a = b) : Ending.returned (.int k a) = .returned (.int k b) := by rw [h]

set_option maxHeartbeats 400000 in
theorem stringEnd_any (s : ByteArray) (i : Nat) (w : World) (hs : s.size ≤ 2000000) (hi : i < s.size) :
    Calls Trym.prog 19 #[.string s, .int .i64 i] w fun e w' => (∃ k : Nat, i < k ∧ k ≤ s.size ∧ s.data.toList.drop k = skip 34 false (s.data.toList.drop (i + 1)) ∧ e = .returned (.int .i64 k)) ∧ w' = w := by
  go_enter Trym.func19, Trym.ntmps19
  go_wp2
  go_loop [1] (fun t => ∃ k : Nat, i < k ∧ k ≤ s.size + 1 ∧ Hid (skip 34 false (s.data.toList.drop k) = skip 34 false (s.data.toList.drop (i + 1))) ∧ t = .int .i64 k) (fun t => s.size + 1 - (intOf t).toNat)
  case atStart => exact ⟨i + 1, by omega, by omega, (rfl : _ = _), by go_num⟩
  case round =>
    obtain ⟨k, hk1, hk2, H, rfl⟩ := hrel
    by_cases hlt : k < s.size
    · have D : Hid (s.data.toList.drop k = s[k] :: s.data.toList.drop (k + 1)) := drop_at s k hlt
      go_wp2
      · have e1 : (nb s[k] == 92) = true := by assumption
        go_round
        case rel =>
          refine ⟨k + 2, by omega, by omega, ?_, by go_num⟩
          show skip 34 false (s.data.toList.drop (k + 2)) = _
          rw [← H.out, D.out, skip_esc2 _ _ _ e1, drop_two]
        case measure => simp [intOf]; omega
      · have e1 : (nb s[k] == 92) = false := by assumption
        have e2 : (nb s[k] == 34) = true := by assumption
        go_ret
        exact ⟨⟨k + 1, by omega, by omega, by rw [← H.out, D.out, skip_end _ _ _ e1 e2], ret_int (by omega)⟩, rfl⟩
      · have e1 : (nb s[k] == 92) = false := by assumption
        have e2 : (nb s[k] == 34) = false := by assumption
        go_round
        case rel =>
          refine ⟨k + 1, by omega, by omega, ?_, by go_num⟩
          show skip 34 false (s.data.toList.drop (k + 1)) = _
          rw [← H.out, D.out, skip_on _ _ _ e1 e2]
        case measure => simp [intOf]; omega
    · go_wp2
      go_ret
      refine ⟨⟨s.size, by omega, by omega, ?_, rfl⟩, rfl⟩
      rw [← H.out, drop_out s s.size (by omega), drop_out s k (by omega), skip_nil]

set_option maxHeartbeats 400000 in
theorem jsonDepth_any (s : ByteArray) (w : World) (hs : s.size ≤ 2000000) :
    Calls Trym.prog 17 #[.string s] w fun e w' => e = .returned (.int .i64 (jd 0 0 0 s.data.toList)) ∧ w' = w := by
  go_enter Trym.func17, Trym.ntmps17
  go_wp2
  go_loop [3, 4, 5] (fun d t i => ∃ (k : Nat) (dd tt : Int), k ≤ s.size ∧ - (k : Int) ≤ dd ∧ dd ≤ k ∧ 0 ≤ tt ∧ tt ≤ k ∧ Hid (jd 0 dd tt (s.data.toList.drop k) = jd 0 0 0 s.data.toList) ∧ i = .int .i64 k ∧ d = .int .i64 dd ∧ t = .int .i64 tt) (fun _ _ i => s.size - (intOf i).toNat)
  case atStart => exact ⟨0, 0, 0, by omega, by omega, by omega, by omega, by omega, (rfl : _ = _), rfl, rfl, rfl⟩
  case round =>
    obtain ⟨k, dd, tt, hk, hd1, hd2, ht1, ht2, H, rfl, rfl, rfl⟩ := hrel
    by_cases hlt : k < s.size
    · have D : Hid (s.data.toList.drop k = s[k] :: s.data.toList.drop (k + 1)) := drop_at s k hlt
      go_wp2_with (go_at_call 19; refine (stringEnd_any s k _ hs hlt).mono ?_; rintro e w' ⟨⟨k2, hk21, hk22, hk23, rfl⟩, rfl⟩; have K2 : Hid (s.data.toList.drop k2 = skip 34 false (s.data.toList.drop (k + 1))) := hk23; clear hk23)
      · have e1 : (nb s[k] == 34) = true := by assumption
        go_round
        case rel => exact ⟨k2, dd, tt, by omega, by omega, by omega, by omega, by omega, (by rw [K2.out, ← jd_quote _ _ _ _ e1, ← D.out, H.out] : _ = _), by go_num, rfl, rfl⟩
        case measure => simp [intOf]; omega
      · have e1 : (nb s[k] == 34) = false := by assumption
        have e2 : (nb s[k] == 123) = true := by assumption
        go_round
        case rel => exact ⟨k + 1, dd + 1, max tt (dd + 1), by omega, by omega, by omega, by omega, by omega, (by rw [← jd_open _ _ _ _ e1 (Or.inl e2), ← D.out, H.out] : _ = _), by go_num, by go_num, by go_num⟩
        case measure => simp [intOf]; omega
      · have e1 : (nb s[k] == 34) = false := by assumption
        have e2 : (nb s[k] == 91) = true := by assumption
        go_round
        case rel => exact ⟨k + 1, dd + 1, max tt (dd + 1), by omega, by omega, by omega, by omega, by omega, (by rw [← jd_open _ _ _ _ e1 (Or.inr e2), ← D.out, H.out] : _ = _), by go_num, by go_num, by go_num⟩
        case measure => simp [intOf]; omega
      · have e1 : (nb s[k] == 34) = false := by assumption
        have e2 : (nb s[k] == 123) = false := by assumption
        have e3 : (nb s[k] == 91) = false := by assumption
        have e4 : (nb s[k] == 125) = true := by assumption
        go_round
        case rel => exact ⟨k + 1, dd - 1, tt, by omega, by omega, by omega, by omega, by omega, (by rw [← jd_shut _ _ _ _ e1 e2 e3 (Or.inl e4), ← D.out, H.out] : _ = _), by go_num, by go_num, by go_num⟩
        case measure => simp [intOf]; omega
      · have e1 : (nb s[k] == 34) = false := by assumption
        have e2 : (nb s[k] == 123) = false := by assumption
        have e3 : (nb s[k] == 91) = false := by assumption
        have e4 : (nb s[k] == 93) = true := by assumption
        go_round
        case rel => exact ⟨k + 1, dd - 1, tt, by omega, by omega, by omega, by omega, by omega, (by rw [← jd_shut _ _ _ _ e1 e2 e3 (Or.inr e4), ← D.out, H.out] : _ = _), by go_num, by go_num, by go_num⟩
        case measure => simp [intOf]; omega
      · have e1 : (nb s[k] == 34) = false := by assumption
        have e2 : (nb s[k] == 123) = false := by assumption
        have e3 : (nb s[k] == 91) = false := by assumption
        have e4 : (nb s[k] == 125) = false := by assumption
        have e5 : (nb s[k] == 93) = false := by assumption
        go_round
        case rel => exact ⟨k + 1, dd, tt, by omega, by omega, by omega, by omega, by omega, (by rw [← jd_else _ _ _ _ e1 e2 e3 e4 e5, ← D.out, H.out] : _ = _), by go_num, by go_num, by go_num⟩
        case measure => simp [intOf]; omega
    · go_wp2
      go_ret
      refine ⟨ret_int ?_, rfl⟩
      rw [← H.out, drop_out s k (by omega), jd_nil]

theorem ZZjsonDepth_any (s : ByteArray) (w : World) (hs : s.size ≤ 2000000) :
    Calls Trym.prog 12 #[.string s] w fun e w' => e = .returned (.int .i64 (jd 0 0 0 s.data.toList)) ∧ w' = w := by
  go_enter Trym.func12, Trym.ntmps12
  go_wp2_with (go_at_call 17; refine (jsonDepth_any s _ hs).mono ?_; rintro e w' ⟨rfl, rfl⟩)
  go_ret
  exact ⟨rfl, rfl⟩

end Go.Proofs.Qxb6605334aMods
