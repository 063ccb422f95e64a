/-
  THE WALK of FnJsonDepthIsHighestBareBalance.
-/
import Derived.Test.Qxb6605334aModsModelWalk
namespace Go.Proofs.Qxb6605334aMods
open Go.RowKit Plain

theorem zzBytes11_yes (s : ByteArray) (w : World) (hs : (s.size : Int) ≤ 1048576) :
    Calls Trym.prog 11 #[.string s] w fun e w' => e = .returned (.bool true) ∧ w' = w := by
  go_enter Trym.func11, Trym.ntmps11
  go_wp2
  go_ret
  exact ⟨rfl, rfl⟩

theorem depth_walk (a0 : ByteArray) (w : World) :
    Calls Trym.prog 5 #[.string a0] w fun e w' => e = .returned (.bool true) ∧ Below w.heap.size w w' := by
  by_cases hs : (a0.size : Int) ≤ 1048576
  · have hb : 0 ≤ jd 0 0 0 a0.data.toList ∧ jd 0 0 0 a0.data.toList ≤ a0.size := by
      have := jd_bounds a0.data.toList 0 0 0
      have e : a0.data.toList.length = a0.size := by simp
      omega
    obtain ⟨hb1, hb2⟩ := hb
    have hs2 : a0.size ≤ 2000000 := by omega
    go_enter Trym.func5, Trym.ntmps5
    go_wp2_with (first | (go_at_call 11; refine (zzBytes11_yes a0 _ hs).mono ?_; rintro e w' ⟨rfl, rfl⟩) | (go_at_call 12; refine (ZZjsonDepth_any a0 _ hs2).mono ?_; rintro e w' ⟨rfl, rfl⟩))
    refine (depthModel_any a0 _ hs2).mono ?_
    rintro e w1 ⟨rfl, hb⟩
    go_wp2
    go_ret
    exact ⟨rfl, hb⟩
  · go_enter Trym.func5, Trym.ntmps5
    go_wp2
    go_ret
    exact ⟨rfl, Below.refl _ _⟩

end Go.Proofs.Qxb6605334aMods
