/-
  THE WALKS of deltaSource.at, deltaSource.matching, ZZMatching.
-/
import Derived.Test.Qxb6600158aModsMatchD
import Derived.Deep.QuietTactic
import Derived.BigQuiet
namespace Go.Proofs.Qxb6600158aMods
open Go.RowKit Plain

set_option maxHeartbeats 1000000 in
theorem at_any (B S N : Nat) (L : Nat → Nat) (p : Nat) (w : World) (hN : N ≤ 65536) (hp : p < st L N) (hS1 : st L N ≤ 1048576) (h : w.rowIs S 3 (N + 1) (fun j => .int .i64 (st L j))) :
    Calls Trym.prog 28 #[.agg #[.slice (some ⟨B, 0, none⟩) N N, .slice (some ⟨S, 0, none⟩) (N + 1) (N + 1)], .int .i64 p] w fun e w' =>
      (∃ b : Nat, b < N ∧ st L b ≤ p ∧ p < st L (b + 1) ∧ e = .returned (.tuple #[.int .i64 b, .int .i64 (p - st L b)])) ∧ Below w.heap.size w w' := by
  have HB : Hid (w.rowIs S 3 (N + 1) (fun j => .int .i64 (st L j))) := h
  have hN1 : (N : Int) ≤ 65536 := by omega
  have hp1 : (p : Int) ≤ 1048576 := by omega
  have HP : Hid (p < st L N) := hp
  have hSw : S < w.heap.size := h.lt
  clear h hN hp hS1
  go_enter Trym.func28, Trym.ntmps28
  go_wp2
  go_loop [6] (fun t => ∃ k : Nat, k < N ∧ Hid (st L k ≤ p) ∧ t = .int .i64 k) (fun t => N - (intOf t).toNat)
  case atStart =>
    refine ⟨0, ?_, (Nat.zero_le _ : _ ≤ _), rfl⟩
    rcases Nat.eq_zero_or_pos N with h0 | h0
    · have := HP.out; rw [h0, st_zero] at this; omega
    · exact h0
  case round =>
    obtain ⟨k, hk, HK, rfl⟩ := hrel
    have hk1 : (k : Int) < (N : Int) := by omega
    by_cases hc : st L (k + 1) ≤ p
    · have g1 : w.cell? ⟨S, k + 1, none⟩ = some (.int .i64 (st L (k + 1))) := HB.out.cell (i := k + 1) (by omega)
      have hc1 : ((st L (k + 1) : Nat) : Int) ≤ (p : Int) := by omega
      have hk2 : k + 1 < N := by
        rcases Nat.lt_or_ge (k + 1) N with h | h
        · exact h
        · have e : k + 1 = N := by omega
          have := HP.out; rw [← e] at this; omega
      have HC : Hid (st L (k + 1) ≤ p) := hc
      clear hc
      generalize hX : st L (k + 1) = X at *
      have HX : Hid (st L (k + 1) = X) := hX
      clear hX
      go_wp2
      go_round
      case rel => exact ⟨k + 1, hk2, (by rw [HX.out]; exact HC.out : _ ≤ _), by go_num⟩
      case measure => simp [intOf]; omega
    · have g1 : w.cell? ⟨S, k + 1, none⟩ = some (.int .i64 (st L (k + 1))) := HB.out.cell (i := k + 1) (by omega)
      have g2 : w.cell? ⟨S, k, none⟩ = some (.int .i64 (st L k)) := HB.out.cell (i := k) (by omega)
      have hc1 : (p : Int) < ((st L (k + 1) : Nat) : Int) := by omega
      have hx1 : ((st L k : Nat) : Int) ≤ (p : Int) := by have := HK.out; omega
      have HC : Hid (p < st L (k + 1)) := by show p < _; omega
      clear hc
      generalize hX : st L (k + 1) = X at *
      have HX : Hid (st L (k + 1) = X) := hX
      clear hX
      generalize hY : st L k = Y at *
      have HY : Hid (st L k = Y) := hY
      clear hY
      go_wp2
      go_quiet (fail)
      go_wp2
      go_ret2
      refine ⟨⟨k, hk, by rw [HY.out]; omega, by rw [HX.out]; omega, ?_⟩, ?_⟩
      · rw [HY.out]; rfl
      · exact below_drewN ((Below.refl _ _).alloc (Nat.le_refl _) _) _

/-- What matching tells: n is the longest run that is common within base b, which holds place p. -/
def MatchEnd (L : Nat → Nat) (F : Nat → Nat → Int) (g : Nat → Int) (N T p b n : Nat) : Prop :=
  b < N ∧ st L b ≤ p ∧ p < st L (b + 1) ∧ p + n ≤ st L (b + 1) ∧ n ≤ T ∧ (∀ j, j < n → F b (p - st L b + j) = g j) ∧ (p + n = st L (b + 1) ∨ n = T ∨ ¬ F b (p - st L b + n) = g n)

theorem match_end {L : Nat → Nat} {F : Nat → Nat → Int} {g : Nat → Int} {N T p b k o M : Nat} (hO : p - st L b = o) (hM : L b - o = M) (hbN : b < N) (hQ : st L b ≤ p ∧ p < st L (b + 1) ∧ st L (b + 1) = st L b + L b)
    (hkM : k ≤ M) (hkT : k ≤ T) (hK : ∀ j, j < k → F b (o + j) = g j) (h : k = M ∨ k = T ∨ ¬ F b (o + k) = g k) : MatchEnd L F g N T p b k := by
  refine ⟨hbN, hQ.1, hQ.2.1, by omega, hkT, fun j hj => by rw [hO]; exact hK j hj, ?_⟩
  rcases h with h | h | h
  · exact Or.inl (by omega)
  · exact Or.inr (Or.inl h)
  · exact Or.inr (Or.inr (by rw [hO]; exact h))

set_option maxHeartbeats 1000000 in
theorem matching_some (B S N : Nat) (A : Nat → Option Addr) (L C : Nat → Nat) (F : Nat → Nat → Int) (bt T : Nat) (g : Nat → Int) (p : Nat) (w : World) (hN : N ≤ 65536) (hp : p < st L N) (hS1 : st L N ≤ 1048576) (hT : T ≤ 1048576)
    (h : OwnRows w B N A L C F) (hs : w.rowIs S 3 (N + 1) (fun j => .int .i64 (st L j))) (ht : w.rowIs bt 5 T (fun k => .int .u8 (g k))) :
    Calls Trym.prog 27 #[.agg #[.slice (some ⟨B, 0, none⟩) N N, .slice (some ⟨S, 0, none⟩) (N + 1) (N + 1)], .slice (some ⟨bt, 0, none⟩) T T, .int .i64 p] w fun e w' =>
      (∃ b n : Nat, MatchEnd L F g N T p b n ∧ e = .returned (.int .i64 n)) ∧ Below w.heap.size w w' := by
  have HB : Hid (OwnRows w B N A L C F) := h
  have HS : Hid (w.rowIs S 3 (N + 1) (fun j => .int .i64 (st L j))) := hs
  have HT : Hid (w.rowIs bt 5 T (fun k => .int .u8 (g k))) := ht
  have hBw : B < w.heap.size := h.1.lt
  have hSw : S < w.heap.size := hs.lt
  have hTw : bt < w.heap.size := ht.lt
  have hN1 : (N : Int) ≤ 65536 := by omega
  have hT1 : (T : Int) ≤ 1048576 := by omega
  have hp1 : (p : Int) ≤ 1048576 := by omega
  have HP : Hid (p < st L N ∧ st L N ≤ 1048576) := ⟨hp, hS1⟩
  clear h hs ht hN hp hS1 hT
  go_enter Trym.func27, Trym.ntmps27
  go_wp2_with fail
  refine (at_any B S N L p _ (by omega) HP.out.1 HP.out.2 (HS.out.alloc _)).mono ?_
  rintro e w2 ⟨⟨b, hbN, hb1, hb2, rfl⟩, hb3⟩
  have hb4 : Below w.heap.size w w2 := ((Below.refl _ _).alloc (Nat.le_refl _) _).trans (hb3.mono (by simp))
  have gb : w2.cell? ⟨w.heap.size, 0, none⟩ = some (.slice (some ⟨B, 0, none⟩) N N) := by
    rw [hb3.cell (p := ⟨w.heap.size, 0, none⟩) (by simp)]
    simp
  have hLb := st_succ L b
  rcases HB.out.2 b hbN with ⟨_, h0, _⟩ | ⟨b', hA, hC, hr⟩
  · omega
  have gB : w2.cell? ⟨B, b, none⟩ = some (.slice (some ⟨b', 0, none⟩) (L b) (L b)) := by
    rw [hb4.cell (p := ⟨B, b, none⟩) hBw, HB.out.1.cell hbN, hA, hC]
  have HR : Hid (w.rowIs b' 5 (L b) (fun k => .int .u8 (F b k))) := hr
  have hrw : b' < w.heap.size := hr.lt
  have HQ : Hid (st L b ≤ p ∧ p < st L (b + 1) ∧ st L (b + 1) = st L b + L b) := ⟨hb1, hb2, hLb⟩
  have hoL : p - st L b < L b := by omega
  have hLb1 : (L b : Int) ≤ 1048576 := by
    have := st_mono L (show b + 1 ≤ N from hbN); have := HP.out; omega
  rw [show ((p : Int) - ((st L b : Nat) : Int)) = ((p - st L b : Nat) : Int) from by omega]
  clear hLb hA hC hr hb1 hb2 hb3
  generalize hO : p - st L b = o at *
  have HO : Hid (p - st L b = o) := hO
  clear hO
  have hbN1 : (b : Int) < (N : Int) := by omega
  have hoL1 : (o : Int) < (L b : Int) := by omega
  go_wp2
  generalize hM : L b - o = M at *
  have HM : Hid (L b - o = M) := hM
  have hM1 : (M : Int) ≤ 1048576 := by omega
  clear hM gb gB
  go_loopw [10] (fun t wr => ∃ k : Nat, k ≤ M ∧ k ≤ T ∧ Hid (∀ j, j < k → F b (o + j) = g j) ∧ t = .int .i64 k ∧ Below w.heap.size w wr) (fun t _ => M - (intOf t).toNat)
  case atStart => exact ⟨0, by omega, by omega, (fun j hj => by omega), rfl, hb4⟩
  case round =>
    obtain ⟨k, hkM, hkT, HK, rfl, hnx⟩ := hrel
    by_cases c1 : k < M
    · have d1 : (k : Int) < (M : Int) := by omega
      by_cases c2 : k < T
      · have d2 : (k : Int) < (T : Int) := by omega
        have g1 : wr.cell? ⟨b', o + k, none⟩ = some (.int .u8 (F b (o + k))) := (hnx.cell (p := ⟨b', o + k, none⟩) hrw).trans (HR.out.cell (by have := HM.out; omega))
        have g2 : wr.cell? ⟨bt, k, none⟩ = some (.int .u8 (g k)) := (hnx.cell (p := ⟨bt, k, none⟩) hTw).trans (HT.out.cell c2)
        by_cases c3 : F b (o + k) = g k
        · have d3 : (F b (o + k) == g k) = true := by simpa using c3
          have HC : Hid (∀ j, j < k + 1 → F b (o + j) = g j) := fun j hj => by
            by_cases e : j = k
            · rw [e]; exact c3
            · exact HK.out j (by omega)
          clear c3
          generalize F b (o + k) = x at *
          generalize g k = y at *
          go_wp2
          go_quiet (fail)
          go_wp2
          go_roundw
          case rel => exact ⟨k + 1, by omega, by omega, HC, by go_num, below_drewN hnx _⟩
          case measure => simp [intOf]; omega
        · have d3 : (F b (o + k) == g k) = false := by simpa using c3
          have HC : Hid (MatchEnd L F g N T p b k) := match_end HO.out HM.out hbN HQ.out hkM hkT HK.out (Or.inr (Or.inr c3))
          clear c3
          generalize F b (o + k) = x at *
          generalize g k = y at *
          go_wp2
          go_quiet (fail)
          go_wp2
          go_ret
          exact ⟨⟨b, k, HC.out, rfl⟩, below_drewN hnx _⟩
      · have d2 : decide ((k : Int) < (T : Int)) = false := by simpa using c2
        have HC : Hid (MatchEnd L F g N T p b k) := match_end HO.out HM.out hbN HQ.out hkM hkT HK.out (Or.inr (Or.inl (by omega)))
        go_wp2
        go_quiet (fail)
        go_wp2
        go_ret
        exact ⟨⟨b, k, HC.out, rfl⟩, below_drewN hnx _⟩
    · have d1 : decide ((k : Int) < (M : Int)) = false := by simpa using c1
      have HC : Hid (MatchEnd L F g N T p b k) := match_end HO.out HM.out hbN HQ.out hkM hkT HK.out (Or.inl (by omega))
      go_wp2
      go_quiet (fail)
      go_wp2
      go_ret
      exact ⟨⟨b, k, HC.out, rfl⟩, below_drewN hnx _⟩

set_option maxHeartbeats 1000000 in
theorem matching_nil (B S N : Nat) (A : Nat → Option Addr) (L C : Nat → Nat) (F : Nat → Nat → Int) (g : Nat → Int) (p : Nat) (w : World) (hN : N ≤ 65536) (hp : p < st L N) (hS1 : st L N ≤ 1048576)
    (h : OwnRows w B N A L C F) (hs : w.rowIs S 3 (N + 1) (fun j => .int .i64 (st L j))) :
    Calls Trym.prog 27 #[.agg #[.slice (some ⟨B, 0, none⟩) N N, .slice (some ⟨S, 0, none⟩) (N + 1) (N + 1)], .slice none 0 0, .int .i64 p] w fun e w' =>
      (∃ b n : Nat, MatchEnd L F g N 0 p b n ∧ e = .returned (.int .i64 n)) ∧ Below w.heap.size w w' := by
  have HB : Hid (OwnRows w B N A L C F) := h
  have HS : Hid (w.rowIs S 3 (N + 1) (fun j => .int .i64 (st L j))) := hs
  have hBw : B < w.heap.size := h.1.lt
  have hSw : S < w.heap.size := hs.lt
  have hN1 : (N : Int) ≤ 65536 := by omega
  have hp1 : (p : Int) ≤ 1048576 := by omega
  have HP : Hid (p < st L N ∧ st L N ≤ 1048576) := ⟨hp, hS1⟩
  clear h hs hN hp hS1
  go_enter Trym.func27, Trym.ntmps27
  go_wp2_with fail
  refine (at_any B S N L p _ (by omega) HP.out.1 HP.out.2 (HS.out.alloc _)).mono ?_
  rintro e w2 ⟨⟨b, hbN, hb1, hb2, rfl⟩, hb3⟩
  have hb4 : Below w.heap.size w w2 := ((Below.refl _ _).alloc (Nat.le_refl _) _).trans (hb3.mono (by simp))
  have gb : w2.cell? ⟨w.heap.size, 0, none⟩ = some (.slice (some ⟨B, 0, none⟩) N N) := by
    rw [hb3.cell (p := ⟨w.heap.size, 0, none⟩) (by simp)]
    simp
  have hLb := st_succ L b
  rcases HB.out.2 b hbN with ⟨_, h0, _⟩ | ⟨b', hA, hC, hr⟩
  · omega
  have gB : w2.cell? ⟨B, b, none⟩ = some (.slice (some ⟨b', 0, none⟩) (L b) (L b)) := by
    rw [hb4.cell (p := ⟨B, b, none⟩) hBw, HB.out.1.cell hbN, hA, hC]
  have HR : Hid (w.rowIs b' 5 (L b) (fun k => .int .u8 (F b k))) := hr
  have hrw : b' < w.heap.size := hr.lt
  have HQ : Hid (st L b ≤ p ∧ p < st L (b + 1) ∧ st L (b + 1) = st L b + L b) := ⟨hb1, hb2, hLb⟩
  have hoL : p - st L b < L b := by omega
  have hLb1 : (L b : Int) ≤ 1048576 := by
    have := st_mono L (show b + 1 ≤ N from hbN); have := HP.out; omega
  rw [show ((p : Int) - ((st L b : Nat) : Int)) = ((p - st L b : Nat) : Int) from by omega]
  clear hLb hA hC hr hb1 hb2 hb3
  generalize hO : p - st L b = o at *
  have HO : Hid (p - st L b = o) := hO
  clear hO
  have hbN1 : (b : Int) < (N : Int) := by omega
  have hoL1 : (o : Int) < (L b : Int) := by omega
  go_wp2
  generalize hM : L b - o = M at *
  have HM : Hid (L b - o = M) := hM
  have hM1 : (M : Int) ≤ 1048576 := by omega
  clear hM gb gB
  go_loopw [10] (fun t wr => t = .int .i64 0 ∧ Below w.heap.size w wr) (fun _ _ => 0)
  case atStart => exact ⟨rfl, hb4⟩
  case round =>
    obtain ⟨rfl, hnx⟩ := hrel
    have d1 : 0 < M := by have := HM.out; omega
    have d2 : decide (0 < M) = true := by simpa using d1
    have HC : Hid (MatchEnd L F g N 0 p b 0) := match_end HO.out HM.out hbN HQ.out (Nat.zero_le _) (Nat.zero_le _) (fun j hj => by omega) (Or.inr (Or.inl rfl))
    go_wp2
    go_quiet (fail)
    go_wp2
    go_ret
    exact ⟨⟨b, 0, HC.out, rfl⟩, below_drewN hnx _⟩

theorem ZZMatching_any (B S N : Nat) (A : Nat → Option Addr) (L C : Nat → Nat) (F : Nat → Nat → Int) (a : Option Addr) (T cT : Nat) (g : Nat → Int) (p : Nat) (w : World) (hN : N ≤ 65536) (hp : p < st L N) (hS1 : st L N ≤ 1048576) (hT : T ≤ 1048576)
    (h : OwnRows w B N A L C F) (hs : w.rowIs S 3 (N + 1) (fun j => .int .i64 (st L j))) (ht : OwnRow w a T cT g) :
    Calls Trym.prog 23 #[.slice (some ⟨B, 0, none⟩) N N, .slice (some ⟨S, 0, none⟩) (N + 1) (N + 1), .slice a T cT, .int .i64 p] w fun e w' =>
      (∃ b n : Nat, MatchEnd L F g N T p b n ∧ e = .returned (.int .i64 n)) ∧ Below w.heap.size w w' := by
  rcases ht with ⟨rfl, rfl, rfl⟩ | ⟨bt, rfl, rfl, hr⟩
  · have HC := matching_nil B S N A L C F g p w hN hp hS1 h hs
    clear h hs hN hp hS1
    go_enter Trym.func23, Trym.ntmps23
    go_wp2_with fail
    refine HC.mono ?_
    rintro e w2 ⟨⟨b, n, hm, rfl⟩, hb⟩
    have HM : Hid (MatchEnd L F g N 0 p b n) := hm
    clear hm
    go_wp2
    go_ret
    exact ⟨⟨b, n, HM.out, rfl⟩, hb⟩
  · have HC := matching_some B S N A L C F bt cT g p w hN hp hS1 hT h hs hr
    clear h hs hN hp hS1 hr
    go_enter Trym.func23, Trym.ntmps23
    go_wp2_with fail
    refine HC.mono ?_
    rintro e w2 ⟨⟨b, n, hm, rfl⟩, hb⟩
    have HM : Hid (MatchEnd L F g N cT p b n) := hm
    clear hm
    go_wp2
    go_ret
    exact ⟨⟨b, n, HM.out, rfl⟩, hb⟩

end Go.Proofs.Qxb6600158aMods
