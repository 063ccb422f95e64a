/-
  THE WALK of FnLooksRandomRefusesConstantContent.
-/
import Derived.Test.Qxb6600158aModsRandWalk
namespace Go.Proofs.Qxb6600158aMods
open Go.RowKit Plain

theorem Trym.info5 : (Trym.prog.info? 5).map (fun i => (i.zero, i.size, i.bytes)) = some (some (.int .u8 0), 1, 1) := by kernel_rfl

theorem ret_bool {a b : Bool} (h : a = b) : Ending.returned (.bool a) = .returned (.bool b) := by rw [h]
theorem verdict_eq (N : Nat) (h : (1 : Int) ≤ N) : ((decide (1 ≤ N) && decide (N ≤ 62)) == decide ((N : Int) ≤ 62)) = true := by
  have h1 : decide (1 ≤ N) = true := by simp; omega
  have h2 : decide ((N : Int) ≤ 62) = decide (N ≤ 62) := decide_eq_decide.2 (by omega)
  rw [h1, h2]; simp
theorem const_verdict (v : Int) (N : Nat) (hv1 : v ≤ 255) : lr (fun _ => v) ((N + 30) / 31) = decide (1 ≤ N ∧ N ≤ 62) := by
  rw [lr_const (fun _ => v) v (fun _ => rfl) (by omega)]
  exact decide_eq_decide.2 (by omega)

/-- The walk behind the two tests, the verdict in the contract's words. -/
theorem const_core (v : Int) (N : Nat) (w : World) (hv0 : 0 ≤ v) (hv1 : v ≤ 255) (hN : N ≤ 1048576) :
    Calls Trym.prog 7 #[.int .u8 v, .int .i64 N] w fun e w' => e = .returned (.bool true) ∧ Below w.heap.size w w' := by
  have hmk := run_make_row' (P := Trym.prog) 24 5 (.int .u8 0) 1 Trym.underlying24 Trym.info5 rfl .i64 .i64 N (by omega) (by omega)
  have hN1 : (N : Int) ≤ 1048576 := by omega
  have hN0 : 0 ≤ (N : Int) := by omega
  clear hN
  go_enter Trym.func7, Trym.ntmps7
  go_wp2
  clear hmk
  go_loopw [6] (fun i wr => ∃ k : Nat, k ≤ N ∧ i = .int .i64 k ∧ wr.rowIs w.heap.size 5 N (fun j => if j < k then .int .u8 v else .int .u8 0) ∧ Below w.heap.size w wr) (fun i _ => N - (intOf i).toNat)
  case atStart => exact ⟨0, by omega, rfl, (World.rowIs_made w (.int .u8 0) N 5).congr (fun j _ => by rw [if_neg (by omega)]), (Below.refl _ _).alloc (Nat.le_refl _) _⟩
  case round =>
    obtain ⟨k, hk, rfl, hrow, hnx⟩ := hrel
    by_cases hlt : k < N
    · have g2 := hrow.cell (i := k) hlt
      rw [if_neg (Nat.lt_irrefl k)] at g2
      have g3 := hrow.frozen k
      go_wp2
      go_roundw
      case rel =>
        refine ⟨k + 1, by omega, by go_num, ?_, hnx.setCell (by exact Nat.le_refl _) _⟩
        refine (hrow.set k (.int .u8 v)).congr fun j hj => ?_
        by_cases e : j = k
        · rw [if_pos e, if_pos (by omega)]
        · rw [if_neg e]
          by_cases e2 : j < k
          · rw [if_pos e2, if_pos (by omega)]
          · rw [if_neg e2, if_neg (by omega)]
      case measure => simp [intOf]; omega
    · go_wp2_with fail
      refine (ZZLooksRandom_any w.heap.size 0 N N (fun _ => v) wr (by omega) hrow.lt (fun j hj => by rw [Nat.zero_add, hrow.cell hj, if_pos (by omega)]) (fun _ _ => ⟨hv0, hv1⟩)).mono ?_
      rintro e w1 ⟨rfl, hw⟩
      rw [const_verdict v N hv1]
      go_wp2
      · have h1 : (1 : Int) ≤ N := by assumption
        go_ret
        exact ⟨ret_bool (verdict_eq N h1), hnx.trans (hw.mono hnx.size)⟩
      · go_ret
        refine ⟨ret_bool ?_, hnx.trans (hw.mono hnx.size)⟩
        simp
        omega

theorem const_walk (v n : Int) (hv0 : 0 ≤ v) (hv1 : v ≤ 255) (w : World) :
    Calls Trym.prog 7 #[.int .u8 v, .int .i64 n] w fun e w' => e = .returned (.bool true) ∧ Below w.heap.size w w' := by
  by_cases h0 : n < 0
  · go_enter Trym.func7, Trym.ntmps7
    go_wp2
    go_ret
    exact ⟨rfl, Below.refl _ _⟩
  · by_cases h1 : 1048576 < n
    · go_enter Trym.func7, Trym.ntmps7
      go_wp2
      go_ret
      exact ⟨rfl, Below.refl _ _⟩
    · obtain ⟨N, rfl⟩ : ∃ N : Nat, n = N := ⟨n.toNat, by omega⟩
      exact const_core v N w hv0 hv1 (by omega)

end Go.Proofs.Qxb6600158aMods
