/-
  THE WALKS of stripComment, ZZstripComment, zzStripModel, zzQuotedEnd.
-/
import Derived.Test.Qxb6605334aModsScan
import Derived.Test.Qxb6605334aModsStripPlain
namespace Go.Proofs.Qxb6605334aMods
open Go.RowKit Plain

theorem ret_str {a b : ByteArray} (h : a = b) : Ending.returned (.string a) = .returned (.string b) := by rw [h]

set_option maxHeartbeats 400000 in
theorem quotedEnd_any (s : ByteArray) (i : Nat) (w : World) (hs : s.size ≤ 2000000) (hi : i < s.size) :
    Calls Trym.prog 16 #[.string s, .int .i64 i] w fun e w' => (∃ k : Nat, i < k ∧ k ≤ s.size ∧ s.data.toList.drop k = skip (nb s[i]) false (s.data.toList.drop (i + 1)) ∧ e = .returned (.int .i64 k)) ∧ w' = w := by
  go_enter Trym.func16, Trym.ntmps16
  go_wp2
  go_loop [6] (fun t => ∃ k : Nat, i < k ∧ k ≤ s.size + 1 ∧ Hid (skip (nb s[i]) false (s.data.toList.drop k) = skip (nb s[i]) false (s.data.toList.drop (i + 1))) ∧ t = .int .i64 k) (fun t => s.size + 1 - (intOf t).toNat)
  case atStart => exact ⟨i + 1, by omega, by omega, (rfl : _ = _), by go_num⟩
  case round =>
    obtain ⟨k, hk1, hk2, H, rfl⟩ := hrel
    by_cases hlt : k < s.size
    · have D : Hid (s.data.toList.drop k = s[k] :: s.data.toList.drop (k + 1)) := drop_at s k hlt
      go_wp2
      · have e1 : (nb s[k] == 92) = true := by assumption
        go_round
        case rel =>
          refine ⟨k + 2, by omega, by omega, ?_, by go_num⟩
          show skip (nb s[i]) false (s.data.toList.drop (k + 2)) = _
          rw [← H.out, D.out, skip_esc2 _ _ _ e1, drop_two]
        case measure => simp [intOf]; omega
      · have e1 : (nb s[k] == 92) = false := by assumption
        have e2 : (nb s[k] == nb s[i]) = true := by assumption
        go_ret
        exact ⟨⟨k + 1, by omega, by omega, by rw [← H.out, D.out, skip_end _ _ _ e1 e2], ret_int (by omega)⟩, rfl⟩
      · have e1 : (nb s[k] == 92) = false := by assumption
        have e2 : (nb s[k] == nb s[i]) = false := by assumption
        go_round
        case rel =>
          refine ⟨k + 1, by omega, by omega, ?_, by go_num⟩
          show skip (nb s[i]) false (s.data.toList.drop (k + 1)) = _
          rw [← H.out, D.out, skip_on _ _ _ e1 e2]
        case measure => simp [intOf]; omega
    · go_wp2
      go_ret
      refine ⟨⟨s.size, by omega, by omega, ?_, rfl⟩, rfl⟩
      rw [← H.out, drop_out s s.size (by omega), drop_out s k (by omega), skip_nil]

theorem nb_nonneg (c : UInt8) : 0 ≤ nb c := Int.natCast_nonneg _
theorem nb_le (c : UInt8) : nb c ≤ 255 := by have := c.toNat_lt; show (c.toNat : Int) ≤ 255; omega

/-- The model's step over a quoted string. -/
theorem quote_step (s : ByteArray) (k k2 : Nat) (hlt : k < s.size) (_h1 : k < k2) (h2 : k2 ≤ s.size) (h0 : (nb s[k] == 35) = false) (hq : (nb s[k] == 34) = true ∨ (nb s[k] == 39) = true)
    (H : k + cutN 0 false (s.data.toList.drop k) = cutOf s) (D : s.data.toList.drop k = s[k] :: s.data.toList.drop (k + 1)) (K : s.data.toList.drop k2 = skip (nb s[k]) false (s.data.toList.drop (k + 1))) :
    k2 + cutN 0 false (s.data.toList.drop k2) = cutOf s := by
  have hz : (nb s[k] == 0) = false := by
    rcases hq with h | h
    · have : nb s[k] = 34 := by simpa using h
      rw [this]; rfl
    · have : nb s[k] = 39 := by simpa using h
      rw [this]; rfl
  have e := cut_skip (nb s[k]) hz (s.data.toList.drop (k + 1)) false
  rw [D, cut_opens 0 _ _ rfl h0 hq] at H
  rw [← K, List.length_drop, List.length_drop, len_list] at e
  omega

/-- The program's step over an escaped byte. -/
theorem esc_step (s : ByteArray) (q : Int) (k : Nat) (hlt : k < s.size) :
    min (k + (1 + cutN q true (s.data.toList.drop (k + 1)))) s.size = min (k + 2 + cutN q false (s.data.toList.drop (k + 2))) s.size := by
  by_cases h : k + 1 < s.size
  · rw [drop_at s (k + 1) h, cut_true, show k + 1 + 1 = k + 2 from rfl]; omega
  · rw [drop_out s (k + 1) (by omega), drop_out s (k + 2) (by omega), cut_nil, cut_nil]; omega

set_option maxHeartbeats 400000 in
theorem stripModel_any (s : ByteArray) (w : World) (hs : s.size ≤ 2000000) :
    Calls Trym.prog 9 #[.string s] w fun e w' => e = .returned (.string (strip s)) ∧ w' = w := by
  go_enter Trym.func9, Trym.ntmps9
  go_wp2
  go_loop [3] (fun t => ∃ k : Nat, k ≤ s.size ∧ Hid (k + cutN 0 false (s.data.toList.drop k) = cutOf s) ∧ t = .int .i64 k) (fun t => s.size - (intOf t).toNat)
  case atStart => exact ⟨0, by omega, (Nat.zero_add _ : _ = _), rfl⟩
  case round =>
    obtain ⟨k, hk, H, rfl⟩ := hrel
    by_cases hlt : k < s.size
    · have D : Hid (s.data.toList.drop k = s[k] :: s.data.toList.drop (k + 1)) := drop_at s k hlt
      go_wp2_with (go_at_call 16; refine (quotedEnd_any s k _ hs hlt).mono ?_; rintro e w' ⟨⟨k2, hk21, hk22, hk23, rfl⟩, rfl⟩; have K2 : Hid (s.data.toList.drop k2 = skip (nb s[k]) false (s.data.toList.drop (k + 1))) := hk23; clear hk23)
      · have e1 : (nb s[k] == 35) = true := by assumption
        go_ret
        refine ⟨ret_str ?_, rfl⟩
        have hh := H.out
        rw [D.out, cut_hash 0 _ _ rfl e1] at hh
        unfold strip; rw [← hh]; rfl
      · have e1 : (nb s[k] == 35) = false := by assumption
        have e2 : nb s[k] = 34 := by assumption
        go_round
        case rel => exact ⟨k2, hk22, quote_step s k k2 hlt hk21 hk22 e1 (Or.inl (by rw [e2]; rfl)) H.out D.out K2.out, rfl⟩
        case measure => simp [intOf]; omega
      · have e1 : (nb s[k] == 35) = false := by assumption
        have e2 : (nb s[k] == 34) = true ∨ (nb s[k] == 39) = true := by assumption
        go_round
        case rel => exact ⟨k2, hk22, quote_step s k k2 hlt hk21 hk22 e1 e2 H.out D.out K2.out, rfl⟩
        case measure => simp [intOf]; omega
      · have e1 : (nb s[k] == 35) = false := by assumption
        have e2 : (nb s[k] == 34) = false ∧ (nb s[k] == 39) = false := by assumption
        go_round
        case rel =>
          refine ⟨k + 1, hlt, ?_, by go_num⟩
          have hh := H.out
          rw [D.out, cut_plain 0 _ _ rfl e1 e2.1 e2.2] at hh
          exact (by omega : k + 1 + cutN 0 false (s.data.toList.drop (k + 1)) = cutOf s)
        case measure => simp [intOf]; omega
    · go_wp2
      go_ret
      refine ⟨ret_str ?_, rfl⟩
      have hh := H.out
      rw [drop_out s k (by omega), cut_nil] at hh
      unfold strip; rw [← hh, show k + 0 = s.size from by omega, extract_all]

set_option maxHeartbeats 400000 in
theorem stripComment_any (s : ByteArray) (w : World) (hs : s.size ≤ 2000000) :
    Calls Trym.prog 15 #[.string s] w fun e w' => e = .returned (.string (strip s)) ∧ w' = w := by
  go_enter Trym.func15, Trym.ntmps15
  go_wp2
  go_loop [3, 4] (fun q t => ∃ (k : Nat) (qq : Int), k ≤ s.size + 1 ∧ 0 ≤ qq ∧ qq ≤ 255 ∧ Hid (min (k + cutN qq false (s.data.toList.drop k)) s.size = cutOf s) ∧ q = .int .u8 qq ∧ t = .int .i64 k) (fun _ t => s.size + 1 - (intOf t).toNat)
  case atStart => exact ⟨0, 0, by omega, by omega, by omega, (by have := cutOf_le s; show min (0 + cutOf s) s.size = _; omega : _ = _), rfl, rfl⟩
  case round =>
    obtain ⟨k, qq, hk, hq1, hq2, H, rfl, rfl⟩ := hrel
    by_cases hlt : k < s.size
    · have D : Hid (s.data.toList.drop k = s[k] :: s.data.toList.drop (k + 1)) := drop_at s k hlt
      go_wp2
      · have e0 : (qq == 0) = true := by assumption
        have e1 : (nb s[k] == 35) = true := by assumption
        go_ret
        refine ⟨ret_str ?_, rfl⟩
        have hh := H.out
        rw [D.out, cut_hash qq _ _ e0 e1] at hh
        unfold strip; rw [← hh, show min (k + 0) s.size = k from by omega]
      · have e0 : (qq == 0) = true := by assumption
        have e1 : (nb s[k] == 35) = false := by assumption
        have e2 : nb s[k] = 34 := by assumption
        go_round
        case rel =>
          refine ⟨k + 1, 34, by omega, by omega, by omega, ?_, rfl, by go_num⟩
          have hh := H.out
          rw [D.out, cut_opens qq _ _ e0 e1 (Or.inl (by rw [e2]; rfl)), e2] at hh
          exact (by omega : min (k + 1 + cutN 34 false (s.data.toList.drop (k + 1))) s.size = cutOf s)
        case measure => simp [intOf]; omega
      · have e0 : (qq == 0) = true := by assumption
        have e1 : (nb s[k] == 35) = false := by assumption
        have e2 : (nb s[k] == 34) = true ∨ (nb s[k] == 39) = true := by assumption
        go_round
        case rel =>
          refine ⟨k + 1, nb s[k], by omega, nb_nonneg _, nb_le _, ?_, rfl, by go_num⟩
          have hh := H.out
          rw [D.out, cut_opens qq _ _ e0 e1 e2] at hh
          exact (by omega : min (k + 1 + cutN (nb s[k]) false (s.data.toList.drop (k + 1))) s.size = cutOf s)
        case measure => simp [intOf]; omega
      · have e0 : (qq == 0) = true := by assumption
        have e1 : (nb s[k] == 35) = false := by assumption
        have e2 : (nb s[k] == 34) = false ∧ (nb s[k] == 39) = false := by assumption
        go_round
        case rel =>
          refine ⟨k + 1, qq, by omega, by omega, by omega, ?_, rfl, by go_num⟩
          have hh := H.out
          have eq : qq = 0 := by simpa using e0
          rw [D.out, cut_plain qq _ _ e0 e1 e2.1 e2.2] at hh
          exact (by rw [eq]; omega : min (k + 1 + cutN qq false (s.data.toList.drop (k + 1))) s.size = cutOf s)
        case measure => simp [intOf]; omega
      · have e0 : (qq == 0) = false := by assumption
        have e1 : (nb s[k] == 92) = true := by assumption
        go_round
        case rel =>
          refine ⟨k + 2, qq, by omega, by omega, by omega, ?_, rfl, by go_num⟩
          have hh := H.out
          rw [D.out, cut_esc qq _ _ e0 e1, esc_step s qq k hlt] at hh
          exact hh
        case measure => simp [intOf]; omega
      · have e0 : (qq == 0) = false := by assumption
        have e1 : (nb s[k] == 92) = false := by assumption
        have e2 : (nb s[k] == qq) = true := by assumption
        go_round
        case rel =>
          refine ⟨k + 1, 0, by omega, by omega, by omega, ?_, rfl, by go_num⟩
          have hh := H.out
          rw [D.out, cut_closes qq _ _ e0 e1 e2] at hh
          exact (by omega : min (k + 1 + cutN 0 false (s.data.toList.drop (k + 1))) s.size = cutOf s)
        case measure => simp [intOf]; omega
      · have e0 : (qq == 0) = false := by assumption
        have e1 : (nb s[k] == 92) = false := by assumption
        have e2 : (nb s[k] == qq) = false := by assumption
        go_round
        case rel =>
          refine ⟨k + 1, qq, by omega, by omega, by omega, ?_, rfl, by go_num⟩
          have hh := H.out
          rw [D.out, cut_in qq _ _ e0 e1 e2] at hh
          exact (by omega : min (k + 1 + cutN qq false (s.data.toList.drop (k + 1))) s.size = cutOf s)
        case measure => simp [intOf]; omega
    · go_wp2
      go_ret
      refine ⟨ret_str ?_, rfl⟩
      have hh := H.out
      rw [drop_out s k (by omega), cut_nil] at hh
      unfold strip; rw [← hh, show min (k + 0) s.size = s.size from by omega, extract_all]

theorem ZZstrip_any (s : ByteArray) (w : World) (hs : s.size ≤ 2000000) :
    Calls Trym.prog 8 #[.string s] w fun e w' => e = .returned (.string (strip s)) ∧ w' = w := by
  go_enter Trym.func8, Trym.ntmps8
  go_wp2_with (go_at_call 15; refine (stripComment_any s _ hs).mono ?_; rintro e w' ⟨rfl, rfl⟩)
  go_ret
  exact ⟨rfl, rfl⟩

end Go.Proofs.Qxb6605334aMods
