/-
  THE WALKS of FnStripCommentCutsAtFirstBareHash and FnStripCommentKeepsItsCutUnderAppending.
-/
import Derived.Test.Qxb6605334aModsStripWalk
namespace Go.Proofs.Qxb6605334aMods
open Go.RowKit Plain

theorem zzBytes7_yes (s : ByteArray) (w : World) (hs : (s.size : Int) ≤ 1048576) :
    Calls Trym.prog 7 #[.string s] w fun e w' => e = .returned (.bool true) ∧ w' = w := by
  go_enter Trym.func7, Trym.ntmps7
  go_wp2
  go_ret
  exact ⟨rfl, rfl⟩

theorem strip_walk (a0 : ByteArray) (w : World) :
    Calls Trym.prog 3 #[.string a0] w fun e w' => e = .returned (.bool true) ∧ Grown w w' := by
  by_cases hs : (a0.size : Int) ≤ 1048576
  · have hs2 : a0.size ≤ 2000000 := by omega
    have hs3 : (strip a0).size ≤ 2000000 := by have := cutOf_le a0; rw [strip_size]; omega
    go_enter Trym.func3, Trym.ntmps3
    go_wp2_with (first | (go_at_call 7; refine (zzBytes7_yes a0 _ hs).mono ?_; rintro e w' ⟨rfl, rfl⟩) | (go_at_call 9; refine (stripModel_any a0 _ hs2).mono ?_; rintro e w' ⟨rfl, rfl⟩))
    refine (ZZstrip_any a0 _ hs2).mono ?_
    rintro e w' ⟨rfl, rfl⟩
    go_wp2_with (go_at_call 9; refine (stripModel_any a0 _ hs2).mono ?_; rintro e w' ⟨rfl, rfl⟩)
    refine (ZZstrip_any _ _ hs3).mono ?_
    rintro e w' ⟨rfl, rfl⟩
    rw [strip_strip]
    go_wp2
    go_ret
    exact ⟨rfl, Grown.refl _⟩
  · go_enter Trym.func3, Trym.ntmps3
    go_wp2
    go_ret
    exact ⟨rfl, Grown.refl _⟩

theorem zzBytes10_yes (a b : ByteArray) (w : World) (ha : (a.size : Int) ≤ 524288) (hb : (b.size : Int) ≤ 524288) :
    Calls Trym.prog 10 #[.string a, .string b] w fun e w' => e = .returned (.bool true) ∧ w' = w := by
  go_enter Trym.func10, Trym.ntmps10
  go_wp2
  go_ret
  exact ⟨rfl, rfl⟩
theorem zzBytes10_any (a b : ByteArray) (w : World) (ha : a.size ≤ maxLen) (hb : b.size ≤ maxLen) :
    Calls Trym.prog 10 #[.string a, .string b] w fun e w' => (∃ r, e = .returned (.bool r)) ∧ w' = w := by
  unfold maxLen at ha hb
  go_enter Trym.func10, Trym.ntmps10
  go_wp2
  all_goals
    go_ret
    exact ⟨⟨_, rfl⟩, rfl⟩

theorem keep_walk (a0 a1 : ByteArray) (ha : a0.size ≤ maxLen) (hb : a1.size ≤ maxLen) (w : World) :
    Calls Trym.prog 4 #[.string a0, .string a1] w fun e w' => e = .returned (.bool true) ∧ Grown w w' := by
  by_cases hs : (a0.size : Int) ≤ 524288 ∧ (a1.size : Int) ≤ 524288
  · obtain ⟨h0, h1⟩ := hs
    have hs2 : a0.size ≤ 2000000 := by omega
    have hs3 : (a0 ++ a1).size ≤ 2000000 := by rw [ByteArray.size_append]; omega
    clear ha hb
    by_cases hc : (strip a0).size < a0.size
    · go_enter Trym.func4, Trym.ntmps4
      go_wp2_with (first | (go_at_call 10; refine (zzBytes10_yes a0 a1 _ h0 h1).mono ?_; rintro e w' ⟨rfl, rfl⟩))
      refine (ZZstrip_any a0 _ hs2).mono ?_
      rintro e w' ⟨rfl, rfl⟩
      go_wp2_with (go_at_call 9; refine (stripModel_any a0 _ hs2).mono ?_; rintro e w' ⟨rfl, rfl⟩)
      refine (ZZstrip_any _ _ hs3).mono ?_
      rintro e w' ⟨rfl, rfl⟩
      rw [strip_append_cut a0 a1 hc]
      go_wp2
      go_ret
      exact ⟨rfl, Grown.refl _⟩
    · obtain ⟨g1, g2⟩ := strip_append_keep a0 a1 hc
      go_enter Trym.func4, Trym.ntmps4
      go_wp2_with (first | (go_at_call 10; refine (zzBytes10_yes a0 a1 _ h0 h1).mono ?_; rintro e w' ⟨rfl, rfl⟩))
      refine (ZZstrip_any a0 _ hs2).mono ?_
      rintro e w' ⟨rfl, rfl⟩
      go_wp2_with (go_at_call 9; refine (stripModel_any a0 _ hs2).mono ?_; rintro e w' ⟨rfl, rfl⟩)
      refine (ZZstrip_any _ _ hs3).mono ?_
      rintro e w' ⟨rfl, rfl⟩
      go_wp2
      go_ret
      exact ⟨rfl, Grown.refl _⟩
  · go_enter Trym.func4, Trym.ntmps4
    go_wp2_with (go_at_call 10; refine (zzBytes10_any a0 a1 _ ha hb).mono ?_; rintro e w' ⟨⟨r, rfl⟩, rfl⟩)
    all_goals
      go_ret
      exact ⟨rfl, Grown.refl _⟩

end Go.Proofs.Qxb6605334aMods
