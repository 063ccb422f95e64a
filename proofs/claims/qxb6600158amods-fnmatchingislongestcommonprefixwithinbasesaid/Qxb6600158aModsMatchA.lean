/-
  THE WALKS of zzBytes_FnMatchingIsLongestCommonPrefixWithinBase and zzDeltaTooBig.
-/
import Derived.Test.Qxb6600158aModsCloneWalk
import Derived.Test.Qxb6600158aModsMatchPlain
namespace Go.Proofs.Qxb6600158aMods
open Go.RowKit Plain

/-- The cells of a slice of slices: each a slice value. -/
def Heads (w : World) (b off N : Nat) (A : Nat → Option Addr) (L C : Nat → Nat) : Prop :=
  ∀ i, i < N → w.cell? ⟨b, off + i, none⟩ = some (.slice (A i) (L i) (C i))

/-- It answers, whatever it answers. -/
def SomeBool (e : Ending) : Prop := e = .returned (.bool true) ∨ e = .returned (.bool false)
/-- 'false' bounds all sizes. -/
def Fits (e : Ending) (N T S : Nat) : Prop := e = .returned (.bool true) ∨ (e = .returned (.bool false) ∧ N ≤ 65536 ∧ T ≤ 1048576 ∧ S ≤ 1048576)

set_option maxHeartbeats 400000 in
theorem zzBytes18_some (b off N cap : Nat) (A : Nat → Option Addr) (L C : Nat → Nat) (a : Option Addr) (T cT : Nat) (p : Int) (w : World) (hN : N ≤ maxLen) (hT : T ≤ maxLen) (h : Heads w b off N A L C) :
    Calls Trym.prog 18 #[.slice (some ⟨b, off, none⟩) N cap, .slice a T cT, .int .i64 p] w fun e w' => SomeBool e ∧ w = w' := by
  unfold maxLen at hN hT
  have H : Hid (Heads w b off N A L C) := h
  clear h
  go_enter Trym.func18, Trym.ntmps18
  go_wp2
  · go_ret
    exact ⟨Or.inr rfl, rfl⟩
  · go_loop [7, 8] (fun t i => ∃ (k : Nat) (z : Int), k ≤ N ∧ 0 ≤ z ∧ z ≤ 1048576 ∧ t = .int .i64 z ∧ i = .int .i64 k) (fun _ i => N - (intOf i).toNat)
    case atStart => exact ⟨0, N, by omega, by omega, by omega, rfl, rfl⟩
    case round =>
      obtain ⟨k, z, hk, hz0, hz1, rfl, rfl⟩ := hrel
      by_cases hlt : k < N
      · have g := H.out k hlt
        go_wp2
        · go_ret
          exact ⟨Or.inr rfl, rfl⟩
        · go_ret
          exact ⟨Or.inr rfl, rfl⟩
        · have e1 : z + (L k : Int) ≤ 1048576 := by assumption
          go_round
          case rel => exact ⟨k + 1, z + L k, by omega, by omega, by omega, rfl, by go_num⟩
          case measure => simp [intOf]; omega
      · go_wp2
        · go_ret
          exact ⟨Or.inr rfl, rfl⟩
        · go_ret
          exact ⟨Or.inr rfl, rfl⟩
        · go_ret
          exact ⟨Or.inl rfl, rfl⟩

set_option maxHeartbeats 400000 in
theorem zzBytes18_zero (a0 : Option Addr) (cap : Nat) (a : Option Addr) (T cT : Nat) (p : Int) (w : World) (hT : T ≤ maxLen) :
    Calls Trym.prog 18 #[.slice a0 0 cap, .slice a T cT, .int .i64 p] w fun e w' => SomeBool e ∧ w = w' := by
  unfold maxLen at hT
  go_enter Trym.func18, Trym.ntmps18
  go_wp2
  go_loop [7, 8] (fun t i => t = .int .i64 0 ∧ i = .int .i64 0) (fun _ _ => 0)
  case atStart => exact ⟨rfl, rfl⟩
  case round =>
    obtain ⟨rfl, rfl⟩ := hrel
    go_wp2
    · go_ret
      exact ⟨Or.inr rfl, rfl⟩
    · go_ret
      exact ⟨Or.inl rfl, rfl⟩

set_option maxHeartbeats 400000 in
theorem tooBig_some (b off N cap : Nat) (A : Nat → Option Addr) (L C : Nat → Nat) (a : Option Addr) (T cT : Nat) (w : World) (hN : N ≤ maxLen) (hT : T ≤ maxLen) (h : Heads w b off N A L C) :
    Calls Trym.prog 19 #[.slice (some ⟨b, off, none⟩) N cap, .slice a T cT] w fun e w' => Fits e N T (st L N) ∧ w = w' := by
  unfold maxLen at hN hT
  have H : Hid (Heads w b off N A L C) := h
  clear h
  go_enter Trym.func19, Trym.ntmps19
  go_wp2
  · go_ret
    exact ⟨Or.inl rfl, rfl⟩
  · go_ret
    exact ⟨Or.inl rfl, rfl⟩
  · go_ret
    exact ⟨Or.inl rfl, rfl⟩
  · go_loop [5, 6] (fun t i => ∃ (k : Nat) (z : Int), k ≤ N ∧ 0 ≤ z ∧ z ≤ 1048576 ∧ Hid (z = (T : Int) + 24 * N + st L k) ∧ t = .int .i64 z ∧ i = .int .i64 k) (fun _ i => N - (intOf i).toNat)
    case atStart => exact ⟨0, T + 24 * N, by omega, by omega, by omega, (by rw [st_zero]; omega : _ = _), by go_num, rfl⟩
    case round =>
      obtain ⟨k, z, hk, hz0, hz1, HZ, rfl, rfl⟩ := hrel
      by_cases hlt : k < N
      · have g := H.out k hlt
        go_wp2
        · go_ret
          exact ⟨Or.inl rfl, rfl⟩
        · go_ret
          exact ⟨Or.inl rfl, rfl⟩
        · have e1 : z + (L k : Int) ≤ 1048576 := by assumption
          go_round
          case rel => exact ⟨k + 1, z + L k, by omega, by omega, by omega, (by rw [st_succ]; have := HZ.out; omega : _ = _), rfl, by go_num⟩
          case measure => simp [intOf]; omega
      · have hkN : k = N := by omega
        subst hkN
        go_wp2
        go_ret
        have := HZ.out
        exact ⟨Or.inr ⟨rfl, by omega, by omega, by omega⟩, rfl⟩

set_option maxHeartbeats 400000 in
theorem tooBig_zero (a0 : Option Addr) (cap : Nat) (a : Option Addr) (T cT : Nat) (w : World) (hT : T ≤ maxLen) :
    Calls Trym.prog 19 #[.slice a0 0 cap, .slice a T cT] w fun e w' => Fits e 0 T 0 ∧ w = w' := by
  unfold maxLen at hT
  go_enter Trym.func19, Trym.ntmps19
  go_wp2
  · go_ret
    exact ⟨Or.inl rfl, rfl⟩
  · go_loop [5, 6] (fun t i => t = .int .i64 T ∧ i = .int .i64 0) (fun _ _ => 0)
    case atStart => exact ⟨by go_num, rfl⟩
    case round =>
      obtain ⟨rfl, rfl⟩ := hrel
      go_wp2
      go_ret
      exact ⟨Or.inr ⟨rfl, by omega, by omega, by omega⟩, rfl⟩

end Go.Proofs.Qxb6600158aMods
