/-
  THE WALK of FnMatchingIsLongestCommonPrefixWithinBase, one base or more.
-/
import Derived.Test.Qxb6600158aModsMatchF
namespace Go.Proofs.Qxb6600158aMods
open Go.RowKit Plain

set_option maxHeartbeats 2000000 in
theorem match_some (b off N cap : Nat) (A : Nat → Option Addr) (L C : Nat → Nat) (F : Nat → Nat → Int) (a : Option Addr) (T cT : Nat) (g : Nat → Int) (p : Int) (w : World) (hN : N ≤ maxLen) (hT : T ≤ maxLen) (hb : b < w.heap.size)
    (hh : Heads w b off N A L C) (hin : ∀ i, i < N → InRow w (A i) (L i) (C i) (F i)) (ht : InRow w a T cT g) :
    Calls Trym.prog 8 #[.slice (some ⟨b, off, none⟩) N cap, .slice a T cT, .int .i64 p] w fun e w' => e = .returned (.bool true) ∧ Below w.heap.size w w' := by
  have HT : Hid (InRow w a T cT g) := ht
  have HH : Hid (Heads w b off N A L C) := hh
  have HI : Hid (∀ i, i < N → InRow w (A i) (L i) (C i) (F i)) := hin
  clear ht hh hin
  go_enter Trym.func8, Trym.ntmps8
  go_wp2_with fail
  refine (zzBytes18_some b off N cap A L C a T cT p w hN hT HH.out).mono ?_
  rintro e w' ⟨hr, rfl⟩
  rcases hr with rfl | rfl
  · go_wp2_with fail
    refine (tooBig_some b off N cap A L C a T cT w hN hT HH.out).mono ?_
    rintro e w' ⟨hr, rfl⟩
    rcases hr with rfl | ⟨rfl, hN1, hT1, hS1⟩
    · go_wp2
      go_ret
      exact ⟨rfl, Below.refl _ _⟩
    · have HS1 : Hid (st L N ≤ 1048576) := hS1
      clear hS1 hN hT
      go_wp2_with fail
      refine (cloneContents_some b off N cap A L C F w hN1 hb HH.out HI.out (fun i hi => by
        have e := st_mono L (show i + 1 ≤ N from hi)
        rw [st_succ] at e
        have := HS1.out
        omega)).mono ?_
      rintro e w1 ⟨rfl, ⟨A', C', hR1⟩, hb1⟩
      have HR1 : Hid (OwnRows w1 w.heap.size N A' L C' F) := hR1
      clear hR1
      go_wp2_with fail
      refine (clone_opt a T cT g w1 (by omega) (HT.out.below hb1 (Nat.le_refl _))).mono ?_
      rintro e w2 ⟨⟨a2, c2, rfl, hT2⟩, hb2⟩
      have HT2 : Hid (OwnRow w2 a2 T c2 g) := hT2
      clear hT2
      go_wp2_with fail
      refine (starts_some w.heap.size N A' L C' w2 hN1 HS1.out (HR1.out.below hb2).1).mono ?_
      rintro e w3 ⟨rfl, hrow, hb3⟩
      have HR3 : Hid (OwnRows w3 w.heap.size N A' L C' F) := (HR1.out.below hb2).below hb3
      have HT3 : Hid (OwnRow w3 a2 T c2 g) := HT2.out.below hb3
      have g1 := hrow.cell (i := N) (by omega)
      have HW3 : Hid (w3.rowIs w2.heap.size 3 (N + 1) (fun j => .int .i64 (st L j))) := hrow
      have HB3 : Hid (Below w.heap.size w w3) := (hb1.trans (hb2.mono hb1.size)).trans (hb3.mono (Nat.le_trans hb1.size hb2.size))
      have hz3 : w2.heap.size < w3.heap.size := hrow.lt
      have hN2 : (N : Int) ≤ 65536 := by omega
      have hT2 : (T : Int) ≤ 1048576 := by omega
      clear hrow hb1 hb2 hb3 HR1 HT2 HI HH HT hb
      by_cases hp0 : p < 0
      · go_wp2
        go_ret
        exact ⟨rfl, HB3.out⟩
      · by_cases hp1 : ((st L N : Nat) : Int) ≤ p
        · go_wp2
          go_ret
          exact ⟨rfl, HB3.out⟩
        · obtain ⟨P, rfl⟩ : ∃ P : Nat, p = P := ⟨p.toNat, by omega⟩
          have HP : Hid (P < st L N) := by show P < _; omega
          have hd : decide (((st L N : Nat) : Int) ≤ (P : Int)) = false := by simpa using hp1
          have hp2 : (P : Int) < ((st L N : Nat) : Int) := by omega
          clear hp1
          go_wp2_with fail
          refine (flatten_any w.heap.size N (st L N) A' L C' F w3 hN1 rfl HS1.out HR3.out).mono ?_
          rintro e w4 ⟨rfl, ⟨G, hG4, hL4⟩, hb4⟩
          have HR4 : Hid (OwnRows w4 w.heap.size N A' L C' F) := HR3.out.below hb4
          have HT4 : Hid (OwnRow w4 a2 T c2 g) := HT3.out.below hb4
          have HW4 : Hid (w4.rowIs w2.heap.size 3 (N + 1) (fun j => .int .i64 (st L j))) := HW3.out.of_block (hb4.block _ HW3.out.lt)
          have HG4 : Hid (w4.rowIs w3.heap.size 5 (st L N) (fun j => .int .u8 (G j))) := hG4
          have HL4 : Hid (Laid L F G N 0) := hL4
          have HB4 : Hid (Below w.heap.size w w4) := HB3.out.trans (hb4.mono HB3.out.size)
          clear hG4 hL4 hb4 HR3 HT3 HW3 HB3 g1 hz3
          go_wp2
          go_loop [10] (fun t => ∃ k : Nat, k < N ∧ Hid (P < st L (k + 1)) ∧ t = .int .i64 k) (fun t => (intOf t).toNat)
          case atStart =>
            have hNpos : 0 < N := by
              rcases Nat.eq_zero_or_pos N with h0 | h0
              · have := HP.out; rw [h0, st_zero] at this; omega
              · exact h0
            refine ⟨N - 1, by omega, (by rw [show N - 1 + 1 = N from by omega]; exact HP.out : _ < _), ?_⟩
            have e : ((N - 1 : Nat) : Int) = (N : Int) - 1 := by omega
            rw [e]
          case round =>
            obtain ⟨k, hk, HK, rfl⟩ := hrel
            have hk1 : (k : Int) < (N : Int) := by omega
            have g1 : w4.cell? ⟨w2.heap.size, k, none⟩ = some (.int .i64 (st L k)) := HW4.out.cell (i := k) (by omega)
            have g2 : w4.cell? ⟨w.heap.size, k, none⟩ = some (.slice (A' k) (L k) (C' k)) := HR4.out.1.cell hk
            by_cases hc : P < st L k
            · have hc1 : (P : Int) < ((st L k : Nat) : Int) := by omega
              have hkpos : 0 < k := by
                rcases Nat.eq_zero_or_pos k with h0 | h0
                · rw [h0, st_zero] at hc; omega
                · exact h0
              have HC : Hid (P < st L k) := hc
              clear hc
              go_wp2
              go_round
              case rel =>
                refine ⟨k - 1, by omega, (by rw [show k - 1 + 1 = k from by omega]; exact HC.out : _ < _), ?_⟩
                have e : ((k - 1 : Nat) : Int) = (k : Int) - 1 := by omega
                rw [e]
              case measure => simp [intOf]; omega
            · have hc1 : decide ((P : Int) < ((st L k : Nat) : Int)) = false := by simpa using hc
              have hLk : 0 < L k := by
                have e := HK.out
                rw [st_succ] at e
                omega
              have hc2 : ((L k : Int) == 0) = false := by simp; omega
              have g3 : w4.cell? ⟨w2.heap.size, k + 1, none⟩ = some (.int .i64 (st L (k + 1))) := HW4.out.cell (i := k + 1) (by omega)
              have HKL : Hid (st L k ≤ P) := by show _ ≤ _; omega
              clear hc
              go_wp2_with fail
              refine (ZZMatching_any w.heap.size w2.heap.size N A' L C' F a2 T c2 g P w4 hN1 HP.out HS1.out hT1 HR4.out HW4.out HT4.out).mono ?_
              rintro e w5 ⟨⟨b2, n, hm, rfl⟩, hb5⟩
              obtain rfl : k = b2 := st_uniq L HKL.out HK.out hm.2.1 hm.2.2.1
              obtain ⟨_, _, _, hm4, hm5, hm6, hm7⟩ := hm
              have HM6 : Hid (∀ j, j < n → G (P + j) = g j) := fun j hj => by
                have e1 := HL4.out.1 k hk (P - st L k + j) (by have := HKL.out; rw [st_succ] at hm4; omega)
                rw [show st L k + (P - st L k + j) = P + j from by have := HKL.out; omega] at e1
                rw [e1]; exact hm6 j hj
              have HM7 : Hid (n = T ∨ P + n = st L (k + 1) ∨ (n < T ∧ P + n < st L (k + 1) ∧ ¬ G (P + n) = g n)) := by
                rcases Nat.lt_or_ge n T with h1 | h1
                · rcases Nat.lt_or_ge (P + n) (st L (k + 1)) with h2 | h2
                  · refine Or.inr (Or.inr ⟨h1, h2, ?_⟩)
                    have e1 := HL4.out.1 k hk (P - st L k + n) (by have := HKL.out; rw [st_succ] at h2; omega)
                    rw [show st L k + (P - st L k + n) = P + n from by have := HKL.out; omega] at e1
                    rw [e1]
                    rcases hm7 with h3 | h3 | h3
                    · omega
                    · omega
                    · exact h3
                  · exact Or.inr (Or.inl (by omega))
                · exact Or.inl (by omega)
              have hE1 : st L (k + 1) ≤ st L N := st_mono L hk
              have hn1 : (n : Int) ≤ (T : Int) := by omega
              have hn2 : (P : Int) + (n : Int) ≤ ((st L (k + 1) : Nat) : Int) := by omega
              have HB5 : Hid (Below w.heap.size w w5) := HB4.out.trans (hb5.mono HB4.out.size)
              have HG5 : Hid (w5.rowIs w3.heap.size 5 (st L N) (fun j => .int .u8 (G j))) := HG4.out.of_block (hb5.block _ HG4.out.lt)
              have HT5 : Hid (OwnRow w5 a2 T c2 g) := HT4.out.below hb5
              have hSN : ((st L N : Nat) : Int) ≤ 1048576 := by have := HS1.out; omega
              clear hm4 hm5 hm6 hm7 g1 g2 g3 hc1 hc2 HR4 HT4 HW4 HG4 HL4 HB4 hb5 HKL HK HP hLk hd
              generalize hE : st L (k + 1) = E at *
              have HE : Hid (st L (k + 1) = E) := hE
              clear hE
              generalize hSS : st L N = SN at *
              have HSS : Hid (st L N = SN) := hSS
              clear hSS
              go_wp2
              rcases HT5.out with ⟨_, hT0, _⟩ | ⟨bt, ha, hc, hrT⟩
              · subst hT0
                obtain rfl : n = 0 := by omega
                go_loop [13] (fun t => t = .int .i64 0) (fun _ => 0)
                case atStart => rfl
                case round =>
                  obtain rfl := hrel
                  go_wp2
                  go_quiet (fail)
                  go_wp2
                  go_ret
                  exact ⟨rfl, below_drewN HB5.out _⟩
              · subst ha
                have HRT : Hid (w5.rowIs bt 5 T (fun k => .int .u8 (g k))) := hrT
                have htw : bt < w5.heap.size := hrT.lt
                have hgw : w3.heap.size < w5.heap.size := HG5.out.lt
                clear hrT
                go_loopw [13] (fun t wr => ∃ j : Nat, j ≤ n ∧ t = .int .i64 j ∧ Below w5.heap.size w5 wr) (fun t _ => n - (intOf t).toNat)
                case atStart => exact ⟨0, Nat.zero_le _, rfl, Below.refl _ _⟩
                case round =>
                  obtain ⟨j, hj, rfl, hnx⟩ := hrel
                  by_cases hlt : j < n
                  · have g1 : wr.cell? ⟨w3.heap.size, P + j, none⟩ = some (.int .u8 (G (P + j))) := (hnx.cell (p := ⟨w3.heap.size, P + j, none⟩) hgw).trans (HG5.out.cell (by omega))
                    have g2 : wr.cell? ⟨bt, j, none⟩ = some (.int .u8 (g j)) := (hnx.cell (p := ⟨bt, j, none⟩) htw).trans (HRT.out.cell (by omega))
                    rw [HM6.out j hlt] at g1
                    generalize g j = y at *
                    have n1 : ((P : Int) + (j : Int)).toNat = P + j := by omega
                    have i1 : (P : Int) + (j : Int) < (SN : Int) := by omega
                    have i2 : (j : Int) < (T : Int) := by omega
                    have i3 : (j : Int) < (n : Int) := by omega
                    go_wp2
                    go_quiet (fail)
                    go_wp2
                    go_roundw
                    case rel => exact ⟨j + 1, by omega, by go_num, below_drewN hnx _⟩
                    case measure => simp [intOf]; omega
                  · have hjn : decide ((j : Int) < (n : Int)) = false := by simpa using hlt
                    by_cases hnT : n = T
                    · subst hnT
                      go_wp2
                      go_quiet (fail)
                      go_wp2
                      go_ret
                      exact ⟨rfl, below_drewN (HB5.out.trans (hnx.mono HB5.out.size)) _⟩
                    · have d1 : ((n : Int) == (T : Int)) = false := by simp; omega
                      have hm7 : P + n = E ∨ (n < T ∧ P + n < E ∧ ¬ G (P + n) = g n) := by
                        rcases HM7.out with h | h
                        · exact absurd h hnT
                        · exact h
                      rcases hm7 with h | ⟨h1, h2, h3⟩
                      · have d2 : ((P : Int) + (n : Int) == (E : Int)) = true := by simp; omega
                        clear h hnT
                        go_wp2
                        go_quiet (fail)
                        go_wp2
                        go_ret
                        exact ⟨rfl, below_drewN (HB5.out.trans (hnx.mono HB5.out.size)) _⟩
                      · have d2 : ((P : Int) + (n : Int) == (E : Int)) = false := by simp; omega
                        have g1 : wr.cell? ⟨w3.heap.size, P + n, none⟩ = some (.int .u8 (G (P + n))) := (hnx.cell (p := ⟨w3.heap.size, P + n, none⟩) hgw).trans (HG5.out.cell (by omega))
                        have g2 : wr.cell? ⟨bt, n, none⟩ = some (.int .u8 (g n)) := (hnx.cell (p := ⟨bt, n, none⟩) htw).trans (HRT.out.cell h1)
                        have d3 : (G (P + n) != g n) = true := by simpa using h3
                        have n1 : ((P : Int) + (n : Int)).toNat = P + n := by omega
                        have i1 : (P : Int) + (n : Int) < (SN : Int) := by omega
                        have i2 : (n : Int) < (T : Int) := by omega
                        clear h3 h1 h2 hnT HM6 HM7
                        generalize G (P + n) = x at *
                        generalize g n = y at *
                        go_wp2
                        go_quiet (fail)
                        go_wp2
                        go_ret
                        exact ⟨rfl, below_drewN (HB5.out.trans (hnx.mono HB5.out.size)) _⟩
  · go_wp2
    go_ret
    exact ⟨rfl, Below.refl _ _⟩

end Go.Proofs.Qxb6600158aMods
