/-
  THE WALK of zzFlatten.
-/
import Derived.Test.Qxb6600158aModsMatchC
namespace Go.Proofs.Qxb6600158aMods
open Go.RowKit Plain

/-- G lays the first k bases one behind the other, and q bytes of base k. -/
def Laid (L : Nat → Nat) (F : Nat → Nat → Int) (G : Nat → Int) (k q : Nat) : Prop :=
  (∀ i, i < k → ∀ j, j < L i → G (st L i + j) = F i j) ∧ ∀ j, j < q → G (st L k + j) = F k j

theorem Laid.next {L : Nat → Nat} {F : Nat → Nat → Int} {G : Nat → Int} {k : Nat} (h : Laid L F G k (L k)) : Laid L F G (k + 1) 0 :=
  ⟨fun i hi j hj => by
    by_cases e : i = k
    · subst e; exact h.2 j hj
    · exact h.1 i (by omega) j hj, fun j hj => by omega⟩
theorem Laid.step {L : Nat → Nat} {F : Nat → Nat → Int} {G : Nat → Int} {k q : Nat} (h : Laid L F G k q) : Laid L F (upd G (st L k + q) (F k q)) k (q + 1) :=
  ⟨fun i hi j hj => by
    have := st_mono L (show i + 1 ≤ k from hi)
    rw [st_succ] at this
    rw [upd_other G _ (by omega)]
    exact h.1 i hi j hj, fun j hj => by
    by_cases e : j = q
    · subst e; exact upd_same _ _ _
    · rw [upd_other G _ (by omega)]; exact h.2 j (by omega)⟩

set_option maxHeartbeats 1000000 in
theorem flatten_any (B N S : Nat) (A : Nat → Option Addr) (L C : Nat → Nat) (F : Nat → Nat → Int) (w : World) (hN : N ≤ 65536) (hS : S = st L N) (hS1 : S ≤ 1048576) (h : OwnRows w B N A L C F) :
    Calls Trym.prog 22 #[.slice (some ⟨B, 0, none⟩) N N, .int .i64 S] w fun e w' => e = .returned (.slice (some ⟨w.heap.size, 0, none⟩) S S) ∧ (∃ G, w'.rowIs w.heap.size 5 S (fun j => .int .u8 (G j)) ∧ Laid L F G N 0) ∧ Below w.heap.size w w' := by
  have hmk := run_make_row' (P := Trym.prog) 24 5 (.int .u8 0) 1 Trym.underlying24 info5 rfl .i64 .i64 S (by omega) (by omega)
  have HB : Hid (OwnRows w B N A L C F) := h
  have hBw : B < w.heap.size := h.1.lt
  have hN1 : (N : Int) ≤ 65536 := by omega
  have hS2 : (S : Int) ≤ 1048576 := by omega
  have HS : Hid (S = st L N) := hS
  clear h hS hN hS1
  go_enter Trym.func22, Trym.ntmps22
  go_wp2
  clear hmk
  go_loopw [6, 7] (fun at' i wr => ∃ (k p : Nat) (G : Nat → Int), k ≤ N ∧ p ≤ S ∧ Hid (p = st L k) ∧ at' = .int .i64 p ∧ i = .int .i64 k ∧ wr.rowIs w.heap.size 5 S (fun j => .int .u8 (G j)) ∧ Hid (Laid L F G k 0) ∧ Below w.heap.size w wr) (fun _ i _ => N - (intOf i).toNat)
  case atStart => exact ⟨0, 0, fun _ => 0, by omega, by omega, (rfl : _ = _), rfl, rfl, World.rowIs_made w (.int .u8 0) S 5, ⟨fun i hi => by omega, fun j hj => by omega⟩, (Below.refl _ _).alloc (Nat.le_refl _) _⟩
  case round =>
    obtain ⟨k, p0, G0, hk, hp0, HP0, rfl, rfl, hrow0, HG0, hnx0⟩ := hrel
    by_cases hlt : k < N
    · have hk1 : (k : Int) < (N : Int) := by omega
      have HT : Hid (st L k + L k ≤ S) := by
        have e := st_mono L (show k + 1 ≤ N from hlt)
        rw [st_succ] at e
        have := HS.out
        exact (by omega : st L k + L k ≤ S)
      have hLk : (L k : Int) ≤ 1048576 := by have := HT.out; omega
      go_wp2
      go_loopw [6, 8] (fun at' j wr => ∃ (q p : Nat) (G : Nat → Int), q ≤ L k ∧ p ≤ S ∧ Hid (p = st L k + q) ∧ at' = .int .i64 p ∧ j = .int .i64 q ∧ wr.rowIs w.heap.size 5 S (fun j => .int .u8 (G j)) ∧ Hid (Laid L F G k q) ∧ Below w.heap.size w wr) (fun _ j _ => L k - (intOf j).toNat)
      case atStart => exact ⟨0, p0, G0, by omega, hp0, HP0, rfl, rfl, hrow0, HG0, hnx0⟩
      case round =>
        obtain ⟨q, p, G, hq, hp, HP, rfl, rfl, hrow, HG, hnx⟩ := hrel
        have g1 : wr.cell? ⟨B, k, none⟩ = some (.slice (A k) (L k) (C k)) := (hnx.cell (p := ⟨B, k, none⟩) hBw).trans (HB.out.1.cell hlt)
        by_cases hq2 : q < L k
        · have hw := HB.out.2 k hlt
          rcases hw with ⟨_, h0, _⟩ | ⟨b', hA, hC, hr⟩
          · omega
          · have g2 : wr.cell? ⟨b', q, none⟩ = some (.int .u8 (F k q)) := (hnx.cell (p := ⟨b', q, none⟩) hr.lt).trans (hr.cell hq2)
            rw [hA, hC] at g1
            have hpS : p < S := by have := HT.out; have := HP.out; omega
            have g3 := hrow.cell (i := p) hpS
            have g4 := hrow.frozen p
            have hq3 : (q : Int) < (L k : Int) := by omega
            have hpS2 : (p : Int) < (S : Int) := by omega
            clear hA hC hr
            go_wp2
            go_roundw
            case rel =>
              have hpe := HP.out
              refine ⟨q + 1, p + 1, upd G (st L k + q) (F k q), by omega, by omega, (by omega : p + 1 = st L k + (q + 1)), by go_num, by go_num, (hrow.set p _).congr fun j hj => ?_, HG.out.step, hnx.setCell (by exact Nat.le_refl _) _⟩
              rw [← hpe]
              by_cases e : j = p
              · rw [if_pos e, e, upd_same]
              · rw [if_neg e, upd_other G _ e]
            case measure => simp [intOf]; omega
        · go_wp2
          go_roundw
          case rel =>
            have hqe : q = L k := by omega
            subst hqe
            exact ⟨k + 1, p, G, by omega, hp, HP, rfl, by go_num, hrow, HG.out.next, hnx⟩
          case measure => simp [intOf]; omega
    · go_wp2
      go_ret
      have hke : k = N := by omega
      subst hke
      exact ⟨rfl, ⟨G0, hrow0, HG0.out⟩, hnx0⟩

end Go.Proofs.Qxb6600158aMods
