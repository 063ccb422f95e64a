/-
  THE WALK of zzCloneBytes.
-/
import Derived.Test.Qxb6600158aModsRows
import Derived.WalkKit
import Derived.WalkSpells
import Derived.WalkLawsBesides
import Derived.Deep.OwnRows
import Derived.Lib.SliceRun
namespace Go.Proofs.Qxb6600158aMods
open Go.RowKit

theorem info5 : (Trym.prog.info? 5).map (fun i => (i.zero, i.size, i.bytes)) = some (some (.int .u8 0), 1, 1) := by kernel_rfl

theorem nil24 : ∀ (w : World) (a : Option Addr) (n c n' c' : Nat), (binOp .eql 24 (.slice a n c) (.slice none n' c')).run Trym.prog w = .ok (.bool a.isNone) w :=
  fun w a n c n' c' => Lib.run_eql_slice_nil w 24 5 a n c n' c' Trym.underlying24

theorem clone_nil (w : World) : Calls Trym.prog 13 #[.slice none 0 0] w fun e w' => e = .returned (.slice none 0 0) ∧ w' = w := by
  have hq := nil24
  go_enter Trym.func13, Trym.ntmps13
  go_wp2
  go_ret
  exact ⟨rfl, rfl⟩

/-- What a clone of 'len' bytes 'f' leaves. -/
def Cloned (w w' : World) (len : Nat) (f : Nat → Int) : Prop :=
  w'.rowIs w.heap.size 5 len (fun k => .int .u8 (f k)) ∧ Below w.heap.size w w' ∧ w'.heap.size = w.heap.size + 1

theorem clone_empty (x : Addr) (len cap : Nat) (f : Nat → Int) (w : World) (hl : (len : Int) ≤ 0) :
    Calls Trym.prog 13 #[.slice (some x) len cap] w fun e w' => e = .returned (.slice (some ⟨w.heap.size, 0, none⟩) len len) ∧ Cloned w w' len f := by
  have hmk := run_make_row' (P := Trym.prog) 24 5 (.int .u8 0) 1 Trym.underlying24 info5 rfl .i64 .i64 len (by omega) (by omega)
  have hq := nil24
  go_enter Trym.func13, Trym.ntmps13
  go_wp2
  clear hmk
  go_loop [4] (fun i => i = .int .i64 0) (fun _ => 0)
  case atStart => rfl
  case round =>
    obtain rfl := hrel
    go_wp2
    go_ret
    exact ⟨rfl, (World.rowIs_made w (.int .u8 0) len 5).congr (fun j hj => by omega), (Below.refl _ _).alloc (Nat.le_refl _) _, by simp⟩

theorem clone_some (b off len cap : Nat) (f : Nat → Int) (w : World) (hl : len ≤ 2000000) (hb : b < w.heap.size)
    (hc : ∀ k, k < len → w.cell? ⟨b, off + k, none⟩ = some (.int .u8 (f k))) :
    Calls Trym.prog 13 #[.slice (some ⟨b, off, none⟩) len cap] w fun e w' => e = .returned (.slice (some ⟨w.heap.size, 0, none⟩) len len) ∧ Cloned w w' len f := by
  have hmk := run_make_row' (P := Trym.prog) 24 5 (.int .u8 0) 1 Trym.underlying24 info5 rfl .i64 .i64 len (by omega) (by omega)
  have hq := nil24
  go_enter Trym.func13, Trym.ntmps13
  go_wp2
  clear hmk
  go_loopw [4] (fun i wr => ∃ k : Nat, k ≤ len ∧ i = .int .i64 k ∧ wr.rowIs w.heap.size 5 len (fun j => if j < k then .int .u8 (f j) else .int .u8 0) ∧ Below w.heap.size w wr ∧ wr.heap.size = w.heap.size + 1) (fun i _ => len - (intOf i).toNat)
  case atStart => exact ⟨0, by omega, rfl, (World.rowIs_made w (.int .u8 0) len 5).congr (fun j _ => by rw [if_neg (by omega)]), (Below.refl _ _).alloc (Nat.le_refl _) _, by simp⟩
  case round =>
    obtain ⟨k, hk, rfl, hrow, hnx, hsz⟩ := hrel
    have HSZ : Hid (wr.heap.size = w.heap.size + 1) := hsz
    clear hsz
    by_cases hlt : k < len
    · have g1 : wr.cell? ⟨b, off + k, none⟩ = some (.int .u8 (f k)) := (hnx.cell (p := ⟨b, off + k, none⟩) hb).trans (hc k hlt)
      have g2 := hrow.cell (i := k) hlt
      rw [if_neg (Nat.lt_irrefl k)] at g2
      have g3 := hrow.frozen k
      clear hc
      go_wp2
      go_roundw
      case rel =>
        refine ⟨k + 1, by omega, by go_num, ?_, hnx.setCell (by exact Nat.le_refl _) _, by simpa using HSZ.out⟩
        refine (hrow.set k (.int .u8 (f k))).congr fun j hj => ?_
        by_cases e : j = k
        · rw [if_pos e, if_pos (by omega), e]
        · rw [if_neg e]
          by_cases e2 : j < k
          · rw [if_pos e2, if_pos (by omega)]
          · rw [if_neg e2, if_neg (by omega)]
      case measure => simp [intOf]; omega
    · go_wp2
      go_ret
      exact ⟨rfl, hrow.congr (fun j hj => by rw [if_pos (by omega)]), hnx, HSZ.out⟩

/-- A row of bytes that came in: empty, or its cells known. -/
def RowAt (w : World) (x : Addr) (len : Nat) (f : Nat → Int) : Prop :=
  (len : Int) ≤ 0 ∨ ∃ b off, x = ⟨b, off, none⟩ ∧ b < w.heap.size ∧ ∀ k, k < len → w.cell? ⟨b, off + k, none⟩ = some (.int .u8 (f k))

theorem clone_at (x : Addr) (len cap : Nat) (f : Nat → Int) (w : World) (hl : len ≤ 2000000) (h : RowAt w x len f) :
    Calls Trym.prog 13 #[.slice (some x) len cap] w fun e w' => e = .returned (.slice (some ⟨w.heap.size, 0, none⟩) len len) ∧ Cloned w w' len f := by
  rcases h with h | ⟨b, off, rfl, hb, hc⟩
  · exact clone_empty x len cap f w h
  · exact clone_some b off len cap f w hl hb hc

end Go.Proofs.Qxb6600158aMods
