/-
  THE WALK of zzStarts.
-/
import Derived.Test.Qxb6600158aModsMatchB
import Derived.RegionTactic
namespace Go.Proofs.Qxb6600158aMods
open Go.RowKit Plain

theorem info3 : (Trym.prog.info? 3).map (fun i => (i.zero, i.size, i.bytes)) = some (some (.int .i64 0), 1, 8) := by kernel_rfl

set_option maxHeartbeats 1000000 in
theorem starts_some (B N : Nat) (A : Nat → Option Addr) (L C : Nat → Nat) (w : World) (hN : N ≤ 65536) (hS : st L N ≤ 1048576) (h : w.rowIs B 24 N (fun i => .slice (A i) (L i) (C i))) :
    Calls Trym.prog 21 #[.slice (some ⟨B, 0, none⟩) N N] w fun e w' => e = .returned (.slice (some ⟨w.heap.size, 0, none⟩) (N + 1) (N + 1)) ∧ w'.rowIs w.heap.size 3 (N + 1) (fun j => .int .i64 (st L j)) ∧ Below w.heap.size w w' := by
  have hmk := run_make_row' (P := Trym.prog) 35 3 (.int .i64 0) 8 Trym.underlying35 info3 rfl .i64 .i64 (N + 1) (by omega) (by omega)
  rw [show ((N + 1 : Nat) : Int) = (N : Int) + 1 from by omega] at hmk
  have HB : Hid (w.rowIs B 24 N (fun i => .slice (A i) (L i) (C i))) := h
  have hBw : B < w.heap.size := h.lt
  have hN1 : (N : Int) ≤ 65536 := by omega
  have HS : Hid (st L N ≤ 1048576) := hS
  clear h hS hN
  go_enter Trym.func21, Trym.ntmps21
  go_wp2
  clear hmk
  go_loopw [4] (fun i wr => ∃ k : Nat, k ≤ N ∧ i = .int .i64 k ∧ wr.rowIs w.heap.size 3 (N + 1) (fun j => .int .i64 (if j ≤ k then st L j else 0)) ∧ Below w.heap.size w wr) (fun i _ => N - (intOf i).toNat)
  case atStart => exact ⟨0, by omega, rfl, (World.rowIs_made w (.int .i64 0) (N + 1) 3).congr (fun j _ => by
      by_cases e : j ≤ 0
      · rw [if_pos e, show j = 0 from by omega]; rfl
      · rw [if_neg e]), (Below.refl _ _).alloc (Nat.le_refl _) _⟩
  case round =>
    obtain ⟨k, hk, rfl, hrow, hnx⟩ := hrel
    by_cases hlt : k < N
    · have g1 : wr.cell? ⟨B, k, none⟩ = some (.slice (A k) (L k) (C k)) := (hnx.cell (p := ⟨B, k, none⟩) hBw).trans (HB.out.cell hlt)
      have g2 := hrow.cell (i := k) (by omega)
      rw [if_pos (Nat.le_refl k)] at g2
      have g3 := hrow.cell (i := k + 1) (by omega)
      rw [if_neg (by omega)] at g3
      have g4 := hrow.frozen (k + 1)
      have hk1 : (k : Int) < (N : Int) := by omega
      have hs1 : ((st L k : Nat) : Int) + (L k : Int) ≤ 1048576 := by
        have e := st_mono L (show k + 1 ≤ N from hlt)
        rw [st_succ] at e
        have := HS.out
        omega
      have HE : Hid (st L (k + 1) = st L k + L k) := st_succ L k
      generalize hX : st L k = X at *
      have HX : Hid (st L k = X) := hX
      clear hX
      go_wp2
      go_region
      go_wp2
      go_roundw
      case rel =>
        refine ⟨k + 1, by omega, by go_num, ((hrow.set (k + 1) _).congr fun j hj => ?_).drew, (hnx.setCell (by exact Nat.le_refl _) _).drew⟩
        by_cases e : j = k + 1
        · rw [if_pos e, if_pos (by omega), e, HE.out]; rfl
        · rw [if_neg e]
          by_cases e2 : j ≤ k
          · rw [if_pos e2, if_pos (by omega)]
          · rw [if_neg e2, if_neg (by omega)]
      case measure => simp [intOf]; omega
    · go_wp2
      go_ret
      exact ⟨rfl, hrow.congr (fun j hj => by rw [if_pos (by omega)]), hnx⟩

theorem make35_one (w : World) : (Instr.makeSlice 35 (.int .i64 1) (.int .i64 1)).run Trym.prog w = .ok (.slice (some ⟨w.heap.size, 0, none⟩) 1 1) (w.alloc (.cells (madeCells #[Value.int .i64 0] 1) 3)) :=
  run_make_row' (P := Trym.prog) 35 3 (.int .i64 0) 8 Trym.underlying35 info3 rfl .i64 .i64 1 (by omega) (by omega) w

theorem starts_zero (a : Option Addr) (c : Nat) (w : World) :
    Calls Trym.prog 21 #[.slice a 0 c] w fun e w' => e = .returned (.slice (some ⟨w.heap.size, 0, none⟩) 1 1) ∧ w'.rowIs w.heap.size 3 1 (fun _ => .int .i64 0) ∧ Below w.heap.size w w' := by
  have hmk := make35_one
  go_enter Trym.func21, Trym.ntmps21
  go_wp2
  go_loop [4] (fun i => i = .int .i64 0) (fun _ => 0)
  case atStart => rfl
  case round =>
    obtain rfl := hrel
    go_wp2
    go_ret
    exact ⟨rfl, World.rowIs_made w (.int .i64 0) 1 3, (Below.refl _ _).alloc (Nat.le_refl _) _⟩

end Go.Proofs.Qxb6600158aMods
