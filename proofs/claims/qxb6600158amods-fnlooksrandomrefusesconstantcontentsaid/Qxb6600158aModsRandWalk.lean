/-
  THE WALK of looksRandom.
-/
import Derived.Test.Qxb6600158aModsRows
import Derived.Test.Qxb6600158aModsRandPlain
import Derived.WalkKit
import Derived.WalkSpells
import Derived.WalkLawsBesides
import Derived.Deep.OwnRows
import Derived.Deep.WholeRow
namespace Go.Proofs.Qxb6600158aMods
open Go.RowKit Plain

def zeros256 : Array Value := Array.replicate 256 (.int .i64 0)
theorem Trym.info42 : (Trym.prog.info? 42).map (fun i => (i.zero, i.size)) = some (some (.agg zeros256), 256) := by kernel_rfl
theorem zeros256_size : zeros256.size = 256 := by unfold zeros256; simp
theorem zeros256_row (w : World) : (w.alloc (.cells zeros256 42)).rowIs w.heap.size 42 256 (fun _ => .int .i64 0) := by
  have h := World.rowIs_alloc w zeros256 42 (fun _ => .int .i64 0) (fun i hi => by
    unfold zeros256 at hi ⊢
    rw [Array.size_replicate] at hi
    rw [Array.getElem?_replicate, if_pos hi])
  rw [zeros256_size] at h
  exact h

/-- One element of an array by value. -/
theorem index_agg (cs : Array Value) (i : Nat) (c : Int) (W : World) (hi : i < 256) (h : cs[i]? = some (.int .i64 c)) :
    (Instr.index 42 (.agg cs) (.int .i64 i)).run Trym.prog W = .ok (.int .i64 c) W := by
  have h1 : (i : Int) < 256 := by omega
  simp [Instr.index, run_underlying Trym.underlying42, asIntOf, go_sem, part, h]
  intro h2
  omega
theorem sq_le (m : Nat) (h : m ≤ 40000) : 0 ≤ (m : Int) * (m : Int) ∧ (m : Int) * (m : Int) ≤ 1600000000 := by
  have h2 : m * m ≤ 40000 * 40000 := Nat.mul_le_mul h h
  have e : ((m * m : Nat) : Int) = (m : Int) * (m : Int) := Int.natCast_mul m m
  omega

set_option maxHeartbeats 400000 in
theorem looksRandom_any (b off len cap : Nat) (f : Nat → Int) (w : World) (hl : len ≤ 1048576) (hb : b < w.heap.size)
    (hc : ∀ k, k < len → w.cell? ⟨b, off + k, none⟩ = some (.int .u8 (f k))) (hf : ∀ k, k < len → 0 ≤ f k ∧ f k ≤ 255) :
    Calls Trym.prog 26 #[.slice (some ⟨b, off, none⟩) len cap] w fun e w' => e = .returned (.bool (lr f ((len + 30) / 31))) ∧ Below w.heap.size w w' := by
  have hz := (zero_of_info Trym.info42).1
  go_enter Trym.func26, Trym.ntmps26
  go_wp2
  clear hz
  go_loopw [4, 5] (fun n i wr => ∃ j p : Nat, p < len + 31 ∧ j ≤ p ∧ Hid (p = 31 * j) ∧ n = .int .i64 j ∧ i = .int .i64 p ∧ wr.rowIs w.heap.size 42 256 (fun v => .int .i64 (cnt f j v)) ∧ Below w.heap.size w wr) (fun _ i _ => len + 31 - (intOf i).toNat)
  case atStart => exact ⟨0, 0, by omega, by omega, (rfl : _ = _), rfl, rfl, zeros256_row w, (Below.refl _ _).alloc (Nat.le_refl _) _⟩
  case round =>
    obtain ⟨j, p, hp, hjp, HP, rfl, rfl, hrow, hnx⟩ := hrel
    by_cases hlt : p < len
    · have g1 : wr.cell? ⟨b, off + p, none⟩ = some (.int .u8 (f p)) := (hnx.cell (p := ⟨b, off + p, none⟩) hb).trans (hc p hlt)
      obtain ⟨hx0, hx1⟩ := hf p hlt
      have g2 := hrow.cell (i := (f p).toNat) (by omega)
      have g3 := hrow.frozen (f p).toNat
      obtain ⟨hc0, hc1⟩ := cnt_bounds f j (f p).toNat
      generalize hX : f p = x at *
      generalize hC : cnt f j x.toNat = c at *
      have HX : Hid (f p = x) := hX
      have HC : Hid (cnt f j x.toNat = c) := hC
      clear hX hC hc hf
      go_wp2
      go_roundw
      case rel =>
        refine ⟨j + 1, p + 31, by omega, by omega, (by have := HP.out; omega : _ = _), by go_num, by go_num, ?_, hnx.setCell (by exact Nat.le_refl _) _⟩
        refine (hrow.set x.toNat (.int .i64 (c + 1))).congr fun v hv => ?_
        rw [cnt_succ, ← HP.out, HX.out]
        by_cases e : v = x.toNat
        · rw [if_pos e, if_pos e, e, HC.out]
        · rw [if_neg e, if_neg e, Int.add_zero]
      case measure => simp [intOf]; omega
    · have hm : j = (len + 30) / 31 := by have := HP.out; omega
      subst hm
      obtain ⟨cs, hcs1, hcs2, hcs3⟩ := hrow
      have hjb : (len + 30) / 31 ≤ 40000 := by omega
      generalize hM : (len + 30) / 31 = m at *
      have HM : Hid ((len + 30) / 31 = m) := hM
      clear hM
      clear hc hf hb HP hjp
      have HZ : Hid ((Trym.prog.info? 42).map (·.size) = some cs.size) := by
        have h := (zero_of_info Trym.info42).2
        rw [← hcs2] at h
        exact h
      go_wp2_with (refine wpList_load_row rfl 42 _ rfl w.heap.size rfl 42 cs (0, 0) _ hcs1 Trym.underlying42 rfl HZ.out ?_)
      go_wp2
      have hm2 : 0 ≤ (m : Int) * (m : Int) ∧ (m : Int) * (m : Int) ≤ 1600000000 := sq_le m hjb
      have HS : Hid (∀ k : Nat, 0 ≤ ss (cnt f m) k ∧ ss (cnt f m) k ≤ (k : Int) * ((m : Int) * (m : Int))) := ss_bounds (cnt f m) m (cnt_bounds f m)
      go_loop [6, 26] (fun s k => ∃ (i : Nat) (S : Int), i ≤ 256 ∧ 0 ≤ S ∧ S ≤ 409600000000 ∧ Hid (S = ss (cnt f m) i) ∧ s = .int .i64 S ∧ k = .int .i64 i) (fun _ k => 256 - (intOf k).toNat)
      case atStart => exact ⟨0, 0, by omega, by omega, by omega, (rfl : _ = _), rfl, rfl⟩
      case round =>
        obtain ⟨i, S, hi, hS0, hS1, HSS, rfl, rfl⟩ := hrel
        by_cases hi2 : i < 256
        · have hix := fun W => index_agg cs i (cnt f m i) W hi2 (hcs3 i hi2)
          obtain ⟨hc0, hc1⟩ := cnt_bounds f m i
          have hn := HS.out (i + 1)
          have hq : 0 ≤ cnt f m i * cnt f m i := Int.mul_nonneg hc0 hc0
          have hn2 : S + cnt f m i * cnt f m i ≤ 409600000000 := by
            have e := ss_succ (cnt f m) i
            have h3 : ((i + 1 : Nat) : Int) * ((m : Int) * (m : Int)) ≤ 256 * 1600000000 := Int.mul_le_mul (by omega) hm2.2 hm2.1 (by omega)
            have := HSS.out
            omega
          have HN : Hid (S + cnt f m i * cnt f m i = ss (cnt f m) (i + 1)) := (by rw [ss_succ, ← HSS.out] : _ = _)
          have hcc : cnt f m i * cnt f m i ≤ 409600000000 := by omega
          clear hn hcs3 HS
          generalize cnt f m i = c at *
          have hi3 : (i : Int) < 256 := by omega
          go_wp2
          go_round
          case rel => exact ⟨i + 1, S + c * c, by omega, by omega, by omega, HN, by go_num, by go_num⟩
          case measure => simp [intOf]; omega
        · have h256 : i = 256 := by omega
          subst h256
          have hmm : 0 ≤ (m : Int) * ((m : Int) + 512) ∧ (m : Int) * ((m : Int) + 512) ≤ 1700000000 := by
            have e1 : (m : Int) * ((m : Int) + 512) = (m : Int) * m + 512 * m := by rw [Int.mul_add, Int.mul_comm (m : Int) 512]
            omega
          go_wp2
          go_ret
          exact ⟨by unfold lr; rw [HM.out, ← HSS.out]; rfl, hnx⟩

set_option maxHeartbeats 400000 in
theorem looksRandom_empty (a : Option Addr) (len cap : Nat) (f : Nat → Int) (w : World) (hl : (len : Int) ≤ 0) :
    Calls Trym.prog 26 #[.slice a len cap] w fun e w' => e = .returned (.bool (lr f ((len + 30) / 31))) ∧ Below w.heap.size w w' := by
  have hz := (zero_of_info Trym.info42).1
  go_enter Trym.func26, Trym.ntmps26
  go_wp2
  clear hz
  go_loopw [4, 5] (fun n i wr => ∃ j p : Nat, p < len + 31 ∧ j ≤ p ∧ Hid (p = 31 * j) ∧ n = .int .i64 j ∧ i = .int .i64 p ∧ wr.rowIs w.heap.size 42 256 (fun v => .int .i64 (cnt f j v)) ∧ Below w.heap.size w wr) (fun _ i _ => len + 31 - (intOf i).toNat)
  case atStart => exact ⟨0, 0, by omega, by omega, (rfl : _ = _), rfl, rfl, zeros256_row w, (Below.refl _ _).alloc (Nat.le_refl _) _⟩
  case round =>
    obtain ⟨j, p, hp, hjp, HP, rfl, rfl, hrow, hnx⟩ := hrel
    by_cases hlt : p < len
    · omega
    · have hm : j = (len + 30) / 31 := by have := HP.out; omega
      subst hm
      obtain ⟨cs, hcs1, hcs2, hcs3⟩ := hrow
      have hjb : (len + 30) / 31 ≤ 40000 := by omega
      generalize hM : (len + 30) / 31 = m at *
      have HM : Hid ((len + 30) / 31 = m) := hM
      clear hM
      clear HP hjp
      have HZ : Hid ((Trym.prog.info? 42).map (·.size) = some cs.size) := by
        have h := (zero_of_info Trym.info42).2
        rw [← hcs2] at h
        exact h
      go_wp2_with (refine wpList_load_row rfl 42 _ rfl w.heap.size rfl 42 cs (0, 0) _ hcs1 Trym.underlying42 rfl HZ.out ?_)
      go_wp2
      have hm2 : 0 ≤ (m : Int) * (m : Int) ∧ (m : Int) * (m : Int) ≤ 1600000000 := sq_le m hjb
      have HS : Hid (∀ k : Nat, 0 ≤ ss (cnt f m) k ∧ ss (cnt f m) k ≤ (k : Int) * ((m : Int) * (m : Int))) := ss_bounds (cnt f m) m (cnt_bounds f m)
      go_loop [6, 26] (fun s k => ∃ (i : Nat) (S : Int), i ≤ 256 ∧ 0 ≤ S ∧ S ≤ 409600000000 ∧ Hid (S = ss (cnt f m) i) ∧ s = .int .i64 S ∧ k = .int .i64 i) (fun _ k => 256 - (intOf k).toNat)
      case atStart => exact ⟨0, 0, by omega, by omega, by omega, (rfl : _ = _), rfl, rfl⟩
      case round =>
        obtain ⟨i, S, hi, hS0, hS1, HSS, rfl, rfl⟩ := hrel
        by_cases hi2 : i < 256
        · have hix := fun W => index_agg cs i (cnt f m i) W hi2 (hcs3 i hi2)
          obtain ⟨hc0, hc1⟩ := cnt_bounds f m i
          have hn := HS.out (i + 1)
          have hq : 0 ≤ cnt f m i * cnt f m i := Int.mul_nonneg hc0 hc0
          have hn2 : S + cnt f m i * cnt f m i ≤ 409600000000 := by
            have e := ss_succ (cnt f m) i
            have h3 : ((i + 1 : Nat) : Int) * ((m : Int) * (m : Int)) ≤ 256 * 1600000000 := Int.mul_le_mul (by omega) hm2.2 hm2.1 (by omega)
            have := HSS.out
            omega
          have HN : Hid (S + cnt f m i * cnt f m i = ss (cnt f m) (i + 1)) := (by rw [ss_succ, ← HSS.out] : _ = _)
          have hcc : cnt f m i * cnt f m i ≤ 409600000000 := by omega
          clear hn hcs3 HS
          generalize cnt f m i = c at *
          have hi3 : (i : Int) < 256 := by omega
          go_wp2
          go_round
          case rel => exact ⟨i + 1, S + c * c, by omega, by omega, by omega, HN, by go_num, by go_num⟩
          case measure => simp [intOf]; omega
        · have h256 : i = 256 := by omega
          subst h256
          have hmm : 0 ≤ (m : Int) * ((m : Int) + 512) ∧ (m : Int) * ((m : Int) + 512) ≤ 1700000000 := by
            have e1 : (m : Int) * ((m : Int) + 512) = (m : Int) * m + 512 * m := by rw [Int.mul_add, Int.mul_comm (m : Int) 512]
            omega
          go_wp2
          go_ret
          exact ⟨by unfold lr; rw [HM.out, ← HSS.out]; rfl, hnx⟩

theorem ZZLooksRandom_any (b off len cap : Nat) (f : Nat → Int) (w : World) (hl : len ≤ 1048576) (hb : b < w.heap.size)
    (hc : ∀ k, k < len → w.cell? ⟨b, off + k, none⟩ = some (.int .u8 (f k))) (hf : ∀ k, k < len → 0 ≤ f k ∧ f k ≤ 255) :
    Calls Trym.prog 16 #[.slice (some ⟨b, off, none⟩) len cap] w fun e w' => e = .returned (.bool (lr f ((len + 30) / 31))) ∧ Below w.heap.size w w' := by
  go_enter Trym.func16, Trym.ntmps16
  go_wp2_with fail
  refine (looksRandom_any b off len cap f w hl hb hc hf).mono ?_
  rintro e w1 ⟨rfl, hw⟩
  go_wp2
  go_ret
  exact ⟨rfl, hw⟩

theorem ZZLooksRandom_empty (a : Option Addr) (len cap : Nat) (f : Nat → Int) (w : World) (hl : (len : Int) ≤ 0) :
    Calls Trym.prog 16 #[.slice a len cap] w fun e w' => e = .returned (.bool (lr f ((len + 30) / 31))) ∧ Below w.heap.size w w' := by
  go_enter Trym.func16, Trym.ntmps16
  go_wp2_with fail
  refine (looksRandom_empty a len cap f w hl).mono ?_
  rintro e w1 ⟨rfl, hw⟩
  go_wp2
  go_ret
  exact ⟨rfl, hw⟩

end Go.Proofs.Qxb6600158aMods
