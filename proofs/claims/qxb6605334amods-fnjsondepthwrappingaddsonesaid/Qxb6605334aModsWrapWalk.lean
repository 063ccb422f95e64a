/-
  THE WALK of FnJsonDepthWrappingAddsOne.
-/
import Derived.Test.Qxb6605334aModsScan
namespace Go.Proofs.Qxb6605334aMods
open Go.RowKit Plain

theorem zzBytes14_yes (s : ByteArray) (w : World) (hs : (s.size : Int) ≤ 1048576) :
    Calls Trym.prog 14 #[.string s] w fun e w' => e = .returned (.bool true) ∧ w' = w := by
  go_enter Trym.func14, Trym.ntmps14
  go_wp2
  go_ret
  exact ⟨rfl, rfl⟩

theorem toList_wrap (o x : UInt8) (a : ByteArray) : ((⟨#[o]⟩ ++ a ++ ⟨#[x]⟩ : ByteArray)).data.toList = o :: (a.data.toList ++ [x]) := by simp
theorem size_wrap (o x : UInt8) (a : ByteArray) : (⟨#[o]⟩ ++ a ++ ⟨#[x]⟩ : ByteArray).size = a.size + 2 := by
  have h := congrArg List.length (toList_wrap o x a)
  simp only [Array.length_toList, List.length_cons, List.length_append, List.length_nil] at h
  show (⟨#[o]⟩ ++ a ++ ⟨#[x]⟩ : ByteArray).data.size = a.data.size + 2
  omega

theorem ZZ_square (a : ByteArray) (w : World) (hs : a.size ≤ 1048576) :
    Calls Trym.prog 12 #[.string (⟨#[91]⟩ ++ a ++ ⟨#[93]⟩)] w fun e w' => e = .returned (.int .i64 (jd 0 0 0 a.data.toList + 1)) ∧ w' = w := by
  refine (ZZjsonDepth_any _ w (by rw [size_wrap]; omega)).mono ?_
  rintro e w' ⟨rfl, rfl⟩
  exact ⟨by rw [toList_wrap, jd_wrap 91 93 (Or.inr rfl) (Or.inr rfl)], rfl⟩
theorem ZZ_curly (a : ByteArray) (w : World) (hs : a.size ≤ 1048576) :
    Calls Trym.prog 12 #[.string (⟨#[123]⟩ ++ a ++ ⟨#[125]⟩)] w fun e w' => e = .returned (.int .i64 (jd 0 0 0 a.data.toList + 1)) ∧ w' = w := by
  refine (ZZjsonDepth_any _ w (by rw [size_wrap]; omega)).mono ?_
  rintro e w' ⟨rfl, rfl⟩
  exact ⟨by rw [toList_wrap, jd_wrap 123 125 (Or.inl rfl) (Or.inl rfl)], rfl⟩

theorem wrap_walk (a0 : ByteArray) (w : World) :
    Calls Trym.prog 6 #[.string a0] w fun e w' => e = .returned (.bool true) ∧ Grown w w' := by
  by_cases hs : (a0.size : Int) ≤ 1048576
  · have hb : 0 ≤ jd 0 0 0 a0.data.toList ∧ jd 0 0 0 a0.data.toList ≤ 1048576 := by
      have := jd_bounds a0.data.toList 0 0 0
      have e : a0.data.toList.length = a0.size := by simp
      omega
    obtain ⟨hb1, hb2⟩ := hb
    have hs2 : a0.size ≤ 2000000 := by omega
    go_enter Trym.func6, Trym.ntmps6
    go_wp2_with (first | (go_at_call 14; refine (zzBytes14_yes a0 _ hs).mono ?_; rintro e w' ⟨rfl, rfl⟩) | (go_at_call 12; refine (ZZjsonDepth_any a0 _ hs2).mono ?_; rintro e w' ⟨rfl, rfl⟩))
    refine (ZZ_square a0 _ (by omega)).mono ?_
    rintro e w' ⟨rfl, rfl⟩
    go_wp2_with fail
    refine (ZZ_curly a0 _ (by omega)).mono ?_
    rintro e w' ⟨rfl, rfl⟩
    go_wp2
    go_ret
    exact ⟨rfl, Grown.refl _⟩
  · go_enter Trym.func6, Trym.ntmps6
    go_wp2
    go_ret
    exact ⟨rfl, Grown.refl _⟩

end Go.Proofs.Qxb6605334aMods
