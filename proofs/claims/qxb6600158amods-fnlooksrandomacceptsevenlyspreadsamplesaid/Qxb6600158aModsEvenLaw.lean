/-
  THE WALK of FnLooksRandomAcceptsEvenlySpreadSample.
-/
import Derived.Test.Qxb6600158aModsRandWalk
import Derived.Test.Qxb6600158aModsCloneWalk
import Derived.OpenShut
namespace Go.Proofs.Qxb6600158aMods
open Go.RowKit Plain

theorem ret_bool {a b : Bool} (h : a = b) : Ending.returned (.bool a) = .returned (.bool b) := by rw [h]

theorem zzBytes17_yes (a : Option Addr) (len cap : Nat) (w : World) (hs : (len : Int) ≤ 1048576) :
    Calls Trym.prog 17 #[.slice a len cap] w fun e w' => e = .returned (.bool true) ∧ w = w' := by
  go_enter Trym.func17, Trym.ntmps17
  go_wp2
  go_ret
  exact ⟨rfl, rfl⟩

/-- The content once its first J samples are laid. -/
def ev (f : Nat → Int) (J k : Nat) : Int := if k % 31 = 0 ∧ k < 31 * J then ((k / 31 % 256 : Nat) : Int) else f k
theorem ev_zero (f : Nat → Int) (k : Nat) : ev f 0 k = f k := by unfold ev; rw [if_neg (by omega)]
theorem ev_succ (f : Nat → Int) (J k : Nat) : ev f (J + 1) k = if k = 31 * J then ((J % 256 : Nat) : Int) else ev f J k := by
  unfold ev
  by_cases h : k = 31 * J
  · rw [if_pos h, if_pos (by omega), show k / 31 = J from by omega]
  · rw [if_neg h]
    by_cases h2 : k % 31 = 0 ∧ k < 31 * J
    · rw [if_pos h2, if_pos (by omega)]
    · rw [if_neg h2, if_neg (by omega)]
theorem ev_bounds (f : Nat → Int) (J k : Nat) (h : 0 ≤ f k ∧ f k ≤ 255) : 0 ≤ ev f J k ∧ ev f J k ≤ 255 := by
  unfold ev; split <;> omega
theorem ev_sample (f : Nat → Int) (J j : Nat) (h : j < J) : ev f J (31 * j) = ((j % 256 : Nat) : Int) := by
  unfold ev; rw [if_pos (by omega), show 31 * j / 31 = j from by omega]
theorem even_verdict (f : Nat → Int) (len : Nat) : lr (ev f ((len + 30) / 31)) ((len + 30) / 31) = decide (0 < len) := by
  rw [lr_even _ _ (fun j hj => ev_sample f _ j hj)]
  exact decide_eq_decide.2 (by omega)

theorem wrap_u8_nat (J : Nat) : Value.int .u8 (IntKind.u8.wrap (J : Int)) = .int .u8 ((J % 256 : Nat) : Int) := by
  rw [IntKind.wrap_u8]; congr 1

set_option maxHeartbeats 400000 in
theorem even_some (x : Addr) (len cap : Nat) (f : Nat → Int) (w : World) (hl : (len : Int) ≤ 1048576) (h : RowAt w x len f) (hf : ∀ k, k < len → 0 ≤ f k ∧ f k ≤ 255) :
    Calls Trym.prog 6 #[.slice (some x) len cap] w fun e w' => e = .returned (.bool true) ∧ Below w.heap.size w w' := by
  have HF : Hid (∀ k, k < len → 0 ≤ f k ∧ f k ≤ 255) := hf
  have HR : Hid (RowAt w x len f) := h
  clear hf h
  go_enter Trym.func6, Trym.ntmps6
  go_wp2_with (go_at_call 17; refine (zzBytes17_yes _ _ _ _ hl).mono ?_; rintro e w' ⟨rfl, rfl⟩)
  refine (clone_at x len cap f _ (by omega) HR.out).mono ?_
  rintro e w1 ⟨rfl, hrow0, hnx0, hsz0⟩
  clear hsz0
  go_wp2
  go_loopw [3, 4] (fun j i wr => ∃ J p : Nat, p < len + 31 ∧ J ≤ p ∧ Hid (p = 31 * J) ∧ j = .int .i64 J ∧ i = .int .i64 p ∧ wr.rowIs w.heap.size 5 len (fun k => .int .u8 (ev f J k)) ∧ Below w.heap.size w wr) (fun _ i _ => len + 31 - (intOf i).toNat)
  case atStart => exact ⟨0, 0, by omega, by omega, (rfl : _ = _), rfl, rfl, hrow0.congr (fun k _ => by rw [ev_zero]), hnx0⟩
  case round =>
    obtain ⟨J, p, hp, hJp, HP, rfl, rfl, hrow, hnx⟩ := hrel
    by_cases hlt : p < len
    · have g2 := hrow.cell (i := p) hlt
      have g3 := hrow.frozen p
      go_wp2
      go_roundw
      case rel =>
        refine ⟨J + 1, p + 31, by omega, by omega, (by have := HP.out; omega : _ = _), by go_num, by go_num, ?_, hnx.setCell (by exact Nat.le_refl _) _⟩
        refine (hrow.set p _).congr fun k hk => ?_
        have hp2 := HP.out
        rw [ev_succ, ← hp2]
        by_cases e : k = p
        · rw [if_pos e, if_pos e]; exact wrap_u8_nat J
        · rw [if_neg e, if_neg e]
      case measure => simp [intOf]; omega
    · have hm : J = (len + 30) / 31 := by have := HP.out; omega
      subst hm
      go_wp2_with fail
      refine (ZZLooksRandom_any w.heap.size 0 len len (ev f ((len + 30) / 31)) wr (by omega) hrow.lt (fun k hk => by rw [Nat.zero_add]; exact hrow.cell hk) (fun k hk => ev_bounds f _ k (HF.out k hk))).mono ?_
      rintro e w2 ⟨rfl, hw⟩
      rw [even_verdict f len]
      go_wp2
      go_ret
      refine ⟨ret_bool ?_, hnx.trans (hw.mono hnx.size)⟩
      simp

theorem lr_none (f : Nat → Int) : lr f 0 = false := by
  unfold lr; rw [ss_cnt_zero]; decide

theorem even_nil (w : World) :
    Calls Trym.prog 6 #[.slice none 0 0] w fun e w' => e = .returned (.bool true) ∧ Below w.heap.size w w' := by
  go_enter Trym.func6, Trym.ntmps6
  go_wp2_with (first | (go_at_call 17; refine (zzBytes17_yes none 0 0 _ (by decide)).mono ?_; rintro e w' ⟨rfl, rfl⟩) | (go_at_call 13; refine (clone_nil _).mono ?_; rintro e w' ⟨rfl, rfl⟩))
  go_loop [4] (fun i => i = .int .i64 0) (fun _ => 0)
  case atStart => rfl
  case round =>
    obtain rfl := hrel
    go_wp2_with fail
    refine (ZZLooksRandom_empty none 0 0 (fun _ => 0) _ (by decide)).mono ?_
    rintro e w2 ⟨rfl, hw⟩
    rw [show (0 + 30) / 31 = 0 from rfl, lr_none]
    go_wp2
    go_ret
    exact ⟨rfl, hw⟩

/-- A slice of bytes as the row's step hands it over. -/
theorem rowAt_of (w : World) (x : Addr) (len cap : Nat) (zs : List Int) (hlc : len ≤ cap) (hz : zs.length = cap)
    (hc : ∀ i, i < zs.length → w.cell? (x.add i) = some (.int .u8 (zs.getD i 0))) : RowAt w x len (fun k => zs.getD k 0) := by
  by_cases h : len = 0
  · exact Or.inl (by omega)
  · obtain ⟨b, off, rfl, hc2⟩ := ints_at hc (by omega)
    exact Or.inr ⟨b, off, rfl, World.block_lt_of_cell? w _ (hc2 0 (by omega)), fun k hk => hc2 k (by omega)⟩

theorem even_walk (a : Option Addr) (len cap : Nat) (zs : List Int) (w : World)
    (h : (a = none ∧ len = 0 ∧ cap = 0 ∧ zs = []) ∨ ∃ x, a = some x ∧ len ≤ cap ∧ cap ≤ maxLen ∧ zs.length = cap ∧ (∀ i, i < zs.length → w.cell? (x.add i) = some (.int .u8 (zs.getD i 0))) ∧ ∀ n ∈ zs, (Lit.int .u8 n).wf = true) :
    Calls Trym.prog 6 #[.slice a len cap] w fun e w' => e = .returned (.bool true) ∧ Below w.heap.size w w' := by
  rcases h with ⟨rfl, rfl, rfl, rfl⟩ | ⟨x, rfl, hlc, _, hz, hc, hw⟩
  · exact even_nil w
  · by_cases hl : (len : Int) ≤ 1048576
    · exact even_some x len cap _ w hl (rowAt_of w x len cap zs hlc hz hc) (fun k _ => range_u8 hw k)
    · clear hc hw
      go_enter Trym.func6, Trym.ntmps6
      go_wp2
      go_ret
      exact ⟨rfl, Below.refl _ _⟩

end Go.Proofs.Qxb6600158aMods
