/-
  THE WALK of FnMatchingIsLongestCommonPrefixWithinBase, no base.
-/
import Derived.Test.Qxb6600158aModsMatchE
namespace Go.Proofs.Qxb6600158aMods
open Go.RowKit Plain

set_option maxHeartbeats 1000000 in
theorem match_zero (a0 : Option Addr) (cap : Nat) (a : Option Addr) (T cT : Nat) (g : Nat → Int) (p : Int) (w : World) (h0 : a0 = none → cap = 0) (hT : T ≤ maxLen) (ht : InRow w a T cT g) :
    Calls Trym.prog 8 #[.slice a0 0 cap, .slice a T cT, .int .i64 p] w fun e w' => e = .returned (.bool true) ∧ Below w.heap.size w w' := by
  have HT : Hid (InRow w a T cT g) := ht
  have H0 : Hid (a0 = none → cap = 0) := h0
  clear ht h0
  go_enter Trym.func8, Trym.ntmps8
  go_wp2_with fail
  refine (zzBytes18_zero a0 cap a T cT p w hT).mono ?_
  rintro e w' ⟨hr, rfl⟩
  rcases hr with rfl | rfl
  · go_wp2_with fail
    refine (tooBig_zero a0 cap a T cT w hT).mono ?_
    rintro e w' ⟨hr, rfl⟩
    rcases hr with rfl | ⟨rfl, _, hT1, _⟩
    · go_wp2
      go_ret
      exact ⟨rfl, Below.refl _ _⟩
    · go_wp2_with fail
      refine (cloneContents_zero a0 cap w H0.out).mono ?_
      rintro e w1 ⟨⟨a', c', rfl⟩, hb1⟩
      go_wp2_with fail
      refine (clone_opt a T cT g w1 (by omega) (HT.out.below hb1 (Nat.le_refl _))).mono ?_
      rintro e w2 ⟨⟨a2, c2, rfl, _⟩, hb2⟩
      go_wp2_with fail
      refine (starts_zero a' c' w2).mono ?_
      rintro e w3 ⟨rfl, hrow, hb3⟩
      have g1 := hrow.cell (i := 0) (by omega)
      have hb : Below w.heap.size w w3 := (hb1.trans (hb2.mono hb1.size)).trans (hb3.mono (Nat.le_trans hb1.size hb2.size))
      by_cases hp : p < 0
      · go_wp2
        go_ret
        exact ⟨rfl, hb⟩
      · go_wp2
        go_ret
        exact ⟨rfl, hb⟩
  · go_wp2
    go_ret
    exact ⟨rfl, Below.refl _ _⟩

end Go.Proofs.Qxb6600158aMods
