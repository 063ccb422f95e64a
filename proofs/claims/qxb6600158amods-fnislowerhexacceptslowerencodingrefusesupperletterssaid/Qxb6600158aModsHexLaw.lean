/-
  THE WALK of FnIsLowerHexAcceptsLowerEncodingRefusesUpperLetters.
-/
import Derived.Test.Qxb6600158aModsHexWalk
import Derived.Test.Qxb6600158aModsCloneWalk
import Derived.Laws.BytesArg
import Derived.OpenShut
namespace Go.Proofs.Qxb6600158aMods
open Go.RowKit

theorem ret_bool {a b : Bool} (h : a = b) : Ending.returned (.bool a) = .returned (.bool b) := by rw [h]

theorem zzBytes12_yes (a : Option Addr) (len cap : Nat) (w : World) (hs : (len : Int) ≤ 1048576) :
    Calls Trym.prog 12 #[.slice a len cap] w fun e w' => e = .returned (.bool true) ∧ w = w' := by
  go_enter Trym.func12, Trym.ntmps12
  go_wp2
  go_ret
  exact ⟨rfl, rfl⟩

/-- Digit k of the encoding. -/
def hexc (f : Nat → Int) (up : Bool) (k : Nat) : Int := dig (if k % 2 = 0 then f (k / 2) / 16 else f (k / 2) % 16) up
/-- Has one of the first n bytes a letter digit? -/
def hl (f : Nat → Int) : Nat → Bool
  | 0 => false
  | n + 1 => hl f n || (decide (10 ≤ f n / 16) || decide (10 ≤ f n % 16))

theorem hl_yes (f : Nat → Int) (k : Nat) (X : Int) (hX : f k = X) (h : 10 ≤ X / 16 ∨ 10 ≤ X % 16) : Value.bool true = .bool (hl f (k + 1)) := by
  have : hl f (k + 1) = true := by
    show (hl f k || (decide (10 ≤ f k / 16) || decide (10 ≤ f k % 16))) = true
    rw [hX]; simp; omega
  rw [this]
theorem hl_on (f : Nat → Int) (k : Nat) (X : Int) (hX : f k = X) (h : X / 16 < 10 ∧ X % 16 < 10) : Value.bool (hl f k) = .bool (hl f (k + 1)) := by
  have : hl f (k + 1) = hl f k := by
    show (hl f k || (decide (10 ≤ f k / 16) || decide (10 ≤ f k % 16))) = hl f k
    rw [hX, decide_eq_false (by omega), decide_eq_false (by omega)]; simp
  rw [this]

/-- Two digits more. -/
theorem row_step {w : World} {b n k : Nat} {f : Nat → Int} {up : Bool} {X : Int} (h : w.rowIs b 5 n (fun j => .int .u8 (if j < 2 * k then hexc f up j else 0))) (hX : f k = X) :
    ((w.setCell ⟨b, 2 * k, none⟩ (.int .u8 (dig (X / 16) up))).setCell ⟨b, 2 * k + 1, none⟩ (.int .u8 (dig (X % 16) up))).rowIs b 5 n (fun j => .int .u8 (if j < 2 * (k + 1) then hexc f up j else 0)) := by
  refine ((h.set (2 * k) _).set (2 * k + 1) _).congr fun j hj => ?_
  by_cases e1 : j = 2 * k + 1
  · rw [if_pos e1, if_pos (by omega)]
    unfold hexc
    rw [if_neg (by omega), show j / 2 = k from by omega, hX]
  · rw [if_neg e1]
    by_cases e2 : j = 2 * k
    · rw [if_pos e2, if_pos (by omega)]
      unfold hexc
      rw [if_pos (by omega), show j / 2 = k from by omega, hX]
    · rw [if_neg e2]
      by_cases e3 : j < 2 * k
      · rw [if_pos e3, if_pos (by omega)]
      · rw [if_neg e3, if_neg (by omega)]

/-! ### The two encodings as strings -/
theorem getElem_nums (g : Nat → Int) (n k : Nat) (h : k < (strOfNums ((List.range n).map g)).size) (hb : 0 ≤ g k ∧ g k ≤ 127) : (((strOfNums ((List.range n).map g))[k]'h).toNat : Int) = g k := by
  have e : (strOfNums ((List.range n).map g))[k]'h = UInt8.ofNat (g k).toNat := by
    show ((((List.range n).map g).map fun v => UInt8.ofNat v.toNat).toArray)[k]'h = _
    simp
  rw [e, UInt8.toNat_ofNat']
  omega
theorem nums_ascii (g : Nat → Int) (n : Nat) (hb : ∀ k, k < n → 0 ≤ g k ∧ g k ≤ 127) :
    (∀ (k : Nat) (h : k < (strOfNums ((List.range n).map g)).size), ((strOfNums ((List.range n).map g))[k]'h).toNat < 128) ∧ hexAll (strOfNums ((List.range n).map g)) = (List.range n).all fun k => okc (g k) := by
  have hn : (strOfNums ((List.range n).map g)).size = n := by rw [strOfNums_size]; simp
  refine ⟨fun k h => ?_, ?_⟩
  · have hk : k < n := by omega
    have e := getElem_nums g n k h (hb k hk)
    have := hb k hk
    omega
  · unfold hexAll
    rw [strOfNums_data, List.all_map, List.all_map]
    apply Bool.eq_iff_iff.2
    rw [List.all_eq_true, List.all_eq_true]
    have key : ∀ k, k ∈ List.range n → ((UInt8.ofNat (g k).toNat).toNat : Int) = g k := fun k hk => by
      have := hb k (List.mem_range.1 hk)
      rw [UInt8.toNat_ofNat']; omega
    constructor
    · intro h k hk
      have := h k hk
      simp only [Function.comp_apply] at this
      rw [key k hk] at this
      exact this
    · intro h k hk
      simp only [Function.comp_apply]
      rw [key k hk]
      exact h k hk

theorem dig_ok (v : Int) (h0 : 0 ≤ v) (h1 : v ≤ 15) : okc (dig v false) = true := by
  unfold dig
  by_cases h : v < 10
  · rw [if_pos h]; exact okc_yes (by omega)
  · rw [if_neg h, if_neg (by decide)]; exact okc_yes (by omega)
theorem dig_up (v : Int) (h0 : 0 ≤ v) (h1 : v ≤ 15) : okc (dig v true) = !decide (10 ≤ v) := by
  unfold dig
  by_cases h : v < 10
  · rw [if_pos h, okc_yes (by omega), decide_eq_false (by omega)]; rfl
  · rw [if_neg h, if_pos rfl, okc_no (by omega), decide_eq_true (by omega)]; rfl
theorem hexc_bounds (f : Nat → Int) (up : Bool) (j : Nat) (h : 0 ≤ f (j / 2) ∧ f (j / 2) ≤ 255) : 0 ≤ hexc f up j ∧ hexc f up j ≤ 127 := by
  unfold hexc dig
  cases up <;> (split <;> split <;> (try split) <;> omega)
theorem lower_all (f : Nat → Int) (n : Nat) (hf : ∀ k, k < n → 0 ≤ f k ∧ f k ≤ 255) : ((List.range (2 * n)).all fun k => okc (hexc f false k)) = true := by
  rw [List.all_eq_true]
  intro k hk
  have hk := List.mem_range.1 hk
  have := hf (k / 2) (by omega)
  exact dig_ok _ (by split <;> omega) (by split <;> omega)
theorem upper_all (f : Nat → Int) : ∀ (n : Nat) (_ : ∀ k, k < n → 0 ≤ f k ∧ f k ≤ 255), ((List.range (2 * n)).all fun k => okc (hexc f true k)) = !hl f n
  | 0, _ => rfl
  | n + 1, hf => by
    have ih := upper_all f n (fun k hk => hf k (by omega))
    have hn := hf n (by omega)
    have e1 : hexc f true (2 * n) = dig (f n / 16) true := by
      unfold hexc; rw [if_pos (by omega), show 2 * n / 2 = n from by omega]
    have e2 : hexc f true (2 * n + 1) = dig (f n % 16) true := by
      unfold hexc; rw [if_neg (by omega), show (2 * n + 1) / 2 = n from by omega]
    rw [show 2 * (n + 1) = 2 * n + 1 + 1 from rfl, List.range_succ, List.range_succ, List.all_append, List.all_append, ih]
    show ((!hl f n && (okc (hexc f true (2 * n)) && true)) && (okc (hexc f true (2 * n + 1)) && true)) = !(hl f n || (decide (10 ≤ f n / 16) || decide (10 ≤ f n % 16)))
    rw [e1, e2, dig_up _ (by omega) (by omega), dig_up _ (by omega) (by omega)]
    cases hl f n <;> cases decide (10 ≤ f n / 16) <;> cases decide (10 ≤ f n % 16) <;> rfl

/-- A row of bytes, as a string. -/
theorem conv_row (w : World) (b n : Nat) (g : Nat → Int) (h : w.rowIs b 5 n (fun j => .int .u8 (g j))) :
    (convert 24 9 (.slice (some ⟨b, 0, none⟩) n n)).run Trym.prog w = .ok (.string (strOfNums ((List.range n).map g))) w := by
  refine run_convert_bytes_arg w 24 5 Trym.underlying24 Trym.underlying5 b 0 n n ((List.range n).map g) (by simp) (fun i hi => ?_) 9 Trym.underlying9
  rw [Nat.zero_add, h.cell hi]
  simp [List.getD, hi]

set_option maxHeartbeats 1000000 in
theorem hex_some (x : Addr) (len cap : Nat) (f : Nat → Int) (w : World) (hlen : (len : Int) ≤ 1048576) (h : RowAt w x len f) (hf : ∀ k, k < len → 0 ≤ f k ∧ f k ≤ 255) :
    Calls Trym.prog 4 #[.slice (some x) len cap] w fun e w' => e = .returned (.bool true) ∧ Below w.heap.size w w' := by
  have hmk := run_make_row' (P := Trym.prog) 24 5 (.int .u8 0) 1 Trym.underlying24 info5 rfl .i64 .i64 (2 * len) (by omega) (by omega)
  rw [show ((2 * len : Nat) : Int) = 2 * (len : Int) from by omega] at hmk
  have HF : Hid (∀ k, k < len → 0 ≤ f k ∧ f k ≤ 255) := hf
  have HR : Hid (RowAt w x len f) := h
  clear hf h
  go_enter Trym.func4, Trym.ntmps4
  go_wp2_with (go_at_call 12; refine (zzBytes12_yes _ _ _ _ hlen).mono ?_; rintro e w' ⟨rfl, rfl⟩)
  refine (clone_at x len cap f _ (by omega) HR.out).mono ?_
  rintro e w1 ⟨rfl, hrow0, hnx0, hsz0⟩
  have hsz1 : w.heap.size < w1.heap.size := by omega
  clear hsz0
  go_wp2
  clear hmk
  go_loopw [5, 6] (fun ltr i wr => ∃ k : Nat, k ≤ len ∧ i = .int .i64 k ∧ ltr = .bool (hl f k) ∧ wr.rowIs w.heap.size 5 len (fun j => .int .u8 (f j)) ∧
      wr.rowIs w1.heap.size 5 (2 * len) (fun j => .int .u8 (if j < 2 * k then hexc f false j else 0)) ∧ wr.rowIs (w1.heap.size + 1) 5 (2 * len) (fun j => .int .u8 (if j < 2 * k then hexc f true j else 0)) ∧ Below w.heap.size w wr) (fun _ i _ => len - (intOf i).toNat)
  case atStart =>
    refine ⟨0, by omega, rfl, rfl, (hrow0.alloc _).alloc _, ?_, ?_, (hnx0.alloc (by omega) _).alloc (by simp; omega) _⟩
    · exact ((World.rowIs_made w1 (.int .u8 0) (2 * len) 5).alloc _).congr (fun j _ => by rw [if_neg (by omega)])
    · have hm := World.rowIs_made (w1.alloc (.cells (madeCells #[Value.int .u8 0] (2 * len)) 5)) (.int .u8 0) (2 * len) 5
      rw [World.size_alloc] at hm
      exact hm.congr (fun j _ => by rw [if_neg (by omega)])
  case round =>
    obtain ⟨k, hk, rfl, rfl, hr0, hr1, hr2, hnx⟩ := hrel
    by_cases hlt : k < len
    · have g1 := hr0.cell (i := k) hlt
      obtain ⟨hx0, hx1⟩ := HF.out k hlt
      have a1 := hr1.frozen (2 * k)
      have a2 := hr1.frozen (2 * k + 1)
      have a3 := hr2.frozen (2 * k)
      have a4 := hr2.frozen (2 * k + 1)
      have c1 := hr1.cell (i := 2 * k) (by omega)
      have c2 := hr1.cell (i := 2 * k + 1) (by omega)
      have c3 := hr2.cell (i := 2 * k) (by omega)
      have c4 := hr2.cell (i := 2 * k + 1) (by omega)
      rw [if_neg (by omega)] at c1 c2 c3 c4
      generalize hX : f k = X at *
      have HX : Hid (f k = X) := hX
      clear hX
      have hq0 : 0 ≤ X / 16 := by omega
      have hq1 : X / 16 ≤ 15 := by omega
      have hm0 : 0 ≤ X % 16 := by omega
      have hm1 : X % 16 ≤ 15 := by omega
      have n1 : (2 * (k : Int)).toNat = 2 * k := by omega
      have n2 : (2 * (k : Int) + 1).toNat = 2 * k + 1 := by omega
      go_wp2_with (go_at_call 14; refine (hexDigit_any _ _ _ (by omega) (by omega)).mono ?_; rintro e w' ⟨rfl, rfl⟩)
      · have e1 : 10 ≤ X / 16 ∨ 10 ≤ X % 16 := by assumption
        go_roundw
        case rel =>
          refine ⟨k + 1, by omega, by go_num, hl_yes f k X HX.out e1, (((hr0.setOther (by exact Nat.ne_of_lt hsz1) _).setOther (by exact Nat.ne_of_lt hsz1) _).setOther (by exact Nat.ne_of_lt (Nat.lt_succ_of_lt hsz1)) _).setOther (by exact Nat.ne_of_lt (Nat.lt_succ_of_lt hsz1)) _, ?_, ?_, (((hnx.setCell (by exact Nat.le_of_lt hsz1) _).setCell (by exact Nat.le_of_lt hsz1) _).setCell (by exact Nat.le_of_lt (Nat.lt_succ_of_lt hsz1)) _).setCell (by exact Nat.le_of_lt (Nat.lt_succ_of_lt hsz1)) _⟩
          · exact ((row_step hr1 HX.out).setOther (by exact Nat.ne_of_lt (Nat.lt_succ_self _)) _).setOther (by exact Nat.ne_of_lt (Nat.lt_succ_self _)) _
          · exact row_step ((hr2.setOther (by exact Nat.ne_of_gt (Nat.lt_succ_self _)) _).setOther (by exact Nat.ne_of_gt (Nat.lt_succ_self _)) _) HX.out
        case measure => simp [intOf]; omega
      · have e1 : X / 16 < 10 ∧ X % 16 < 10 := by assumption
        go_roundw
        case rel =>
          refine ⟨k + 1, by omega, by go_num, hl_on f k X HX.out e1, (((hr0.setOther (by exact Nat.ne_of_lt hsz1) _).setOther (by exact Nat.ne_of_lt hsz1) _).setOther (by exact Nat.ne_of_lt (Nat.lt_succ_of_lt hsz1)) _).setOther (by exact Nat.ne_of_lt (Nat.lt_succ_of_lt hsz1)) _, ?_, ?_, (((hnx.setCell (by exact Nat.le_of_lt hsz1) _).setCell (by exact Nat.le_of_lt hsz1) _).setCell (by exact Nat.le_of_lt (Nat.lt_succ_of_lt hsz1)) _).setCell (by exact Nat.le_of_lt (Nat.lt_succ_of_lt hsz1)) _⟩
          · exact ((row_step hr1 HX.out).setOther (by exact Nat.ne_of_lt (Nat.lt_succ_self _)) _).setOther (by exact Nat.ne_of_lt (Nat.lt_succ_self _)) _
          · exact row_step ((hr2.setOther (by exact Nat.ne_of_gt (Nat.lt_succ_self _)) _).setOther (by exact Nat.ne_of_gt (Nat.lt_succ_self _)) _) HX.out
        case measure => simp [intOf]; omega
      · have e1 : 10 ≤ X / 16 := by assumption
        go_roundw
        case rel =>
          refine ⟨k + 1, by omega, by go_num, hl_yes f k X HX.out (Or.inl e1), (((hr0.setOther (by exact Nat.ne_of_lt hsz1) _).setOther (by exact Nat.ne_of_lt hsz1) _).setOther (by exact Nat.ne_of_lt (Nat.lt_succ_of_lt hsz1)) _).setOther (by exact Nat.ne_of_lt (Nat.lt_succ_of_lt hsz1)) _, ?_, ?_, (((hnx.setCell (by exact Nat.le_of_lt hsz1) _).setCell (by exact Nat.le_of_lt hsz1) _).setCell (by exact Nat.le_of_lt (Nat.lt_succ_of_lt hsz1)) _).setCell (by exact Nat.le_of_lt (Nat.lt_succ_of_lt hsz1)) _⟩
          · exact ((row_step hr1 HX.out).setOther (by exact Nat.ne_of_lt (Nat.lt_succ_self _)) _).setOther (by exact Nat.ne_of_lt (Nat.lt_succ_self _)) _
          · exact row_step ((hr2.setOther (by exact Nat.ne_of_gt (Nat.lt_succ_self _)) _).setOther (by exact Nat.ne_of_gt (Nat.lt_succ_self _)) _) HX.out
        case measure => simp [intOf]; omega
    · have hkl : k = len := by omega
      subst hkl
      obtain ⟨s1, S1⟩ : ∃ s1, s1 = strOfNums ((List.range (2 * k)).map (hexc f false)) := ⟨_, rfl⟩
      obtain ⟨s2, S2⟩ : ∃ s2, s2 = strOfNums ((List.range (2 * k)).map (hexc f true)) := ⟨_, rfl⟩
      have hcv1 := conv_row wr w1.heap.size (2 * k) (hexc f false) (hr1.congr (fun j hj => by rw [if_pos hj]))
      rw [← S1] at hcv1
      obtain ⟨A1, B1⟩ := nums_ascii (hexc f false) (2 * k) (fun j hj => hexc_bounds f false j (HF.out (j / 2) (by omega)))
      obtain ⟨A2, B2⟩ := nums_ascii (hexc f true) (2 * k) (fun j hj => hexc_bounds f true j (HF.out (j / 2) (by omega)))
      rw [← S1] at A1 B1
      rw [← S2] at A2 B2
      have V1 : Hid (hexAll s1 = true) := by rw [lower_all f k HF.out] at B1; exact B1
      have V2 : Hid (hexAll s2 = !hl f k) := by rw [upper_all f k HF.out] at B2; exact B2
      have HA1 : Hid (∀ (j : Nat) (h : j < s1.size), (s1[j]'h).toNat < 128) := A1
      have HA2 : Hid (∀ (j : Nat) (h : j < s2.size), (s2[j]'h).toNat < 128) := A2
      have HS2 : Hid (s2 = strOfNums ((List.range (2 * k)).map (hexc f true))) := S2
      clear A1 A2 B1 B2 S1 S2
      go_wp2_with fail
      refine (ZZIsLowerHex_any s1 wr HA1.out).mono ?_
      rintro e w2 ⟨rfl, hb2⟩
      rw [V1.out]
      clear hcv1
      have hcv2 := conv_row w2 (w1.heap.size + 1) (2 * k) (hexc f true) ((hr2.of_block (hb2.block _ hr2.lt)).congr (fun j hj => by rw [if_pos hj]))
      rw [← HS2.out] at hcv2
      go_wp2_with fail
      refine (ZZIsLowerHex_any s2 w2 HA2.out).mono ?_
      rintro e w3 ⟨rfl, hb3⟩
      rw [V2.out]
      go_wp2
      go_ret
      refine ⟨ret_bool ?_, (hnx.trans (hb2.mono hnx.size)).trans (hb3.mono (Nat.le_trans hnx.size hb2.size))⟩
      simp

theorem make_zero (w : World) : (Instr.makeSlice 24 (.int .i64 0) (.int .i64 0)).run Trym.prog w = .ok (.slice (some ⟨w.heap.size, 0, none⟩) 0 0) (w.alloc (.cells (madeCells #[Value.int .u8 0] 0) 5)) :=
  run_make_row' (P := Trym.prog) 24 5 (.int .u8 0) 1 Trym.underlying24 info5 rfl .i64 .i64 0 (by omega) (by omega) w
theorem conv_zero (w : World) (b : Nat) : (convert 24 9 (.slice (some ⟨b, 0, none⟩) 0 0)).run Trym.prog w = .ok (.string (strOfNums [])) w :=
  run_convert_bytes_arg w 24 5 Trym.underlying24 Trym.underlying5 b 0 0 0 [] rfl (fun i hi => by omega) 9 Trym.underlying9

theorem below_two (w : World) : Below w.heap.size w ((w.alloc (.cells (madeCells #[Value.int .u8 0] 0) 5)).alloc (.cells (madeCells #[Value.int .u8 0] 0) 5)) :=
  ((Below.refl _ _).alloc (Nat.le_refl _) _).alloc (by simp) _

set_option maxHeartbeats 400000 in
theorem hex_nil (w : World) :
    Calls Trym.prog 4 #[.slice none 0 0] w fun e w' => e = .returned (.bool true) ∧ Below w.heap.size w w' := by
  have hmk := make_zero
  have hcv := conv_zero
  obtain ⟨s0, S0⟩ : ∃ s0, s0 = strOfNums [] := ⟨_, rfl⟩
  rw [← S0] at hcv
  have HA : Hid (∀ (j : Nat) (h : j < s0.size), (s0[j]'h).toNat < 128) := by
    intro j h
    rw [S0, strOfNums_size] at h
    simp at h
  have HV : Hid (hexAll s0 = true) := by rw [S0]; rfl
  clear S0
  go_enter Trym.func4, Trym.ntmps4
  go_wp2_with (first | (go_at_call 12; refine (zzBytes12_yes none 0 0 _ (by decide)).mono ?_; rintro e w' ⟨rfl, rfl⟩) | (go_at_call 13; refine (clone_nil _).mono ?_; rintro e w' ⟨rfl, rfl⟩))
  go_loop [5, 6] (fun l i => l = .bool false ∧ i = .int .i64 0) (fun _ _ => 0)
  case atStart => exact ⟨rfl, rfl⟩
  case round =>
    obtain ⟨rfl, rfl⟩ := hrel
    go_wp2_with fail
    refine (ZZIsLowerHex_any s0 _ HA.out).mono ?_
    rintro e w2 ⟨rfl, hb2⟩
    rw [HV.out]
    go_wp2_with fail
    refine (ZZIsLowerHex_any s0 _ HA.out).mono ?_
    rintro e w3 ⟨rfl, hb3⟩
    rw [HV.out]
    go_wp2
    go_ret
    refine ⟨rfl, ?_⟩
    exact ((below_two _).trans (hb2.mono (below_two _).size)).trans (hb3.mono (Nat.le_trans (below_two _).size hb2.size))

/-- A slice of bytes as the row's step hands it over. -/
theorem rowAt_of (w : World) (x : Addr) (len cap : Nat) (zs : List Int) (hlc : len ≤ cap) (hz : zs.length = cap)
    (hc : ∀ i, i < zs.length → w.cell? (x.add i) = some (.int .u8 (zs.getD i 0))) : RowAt w x len (fun k => zs.getD k 0) := by
  by_cases h : len = 0
  · exact Or.inl (by omega)
  · obtain ⟨b, off, rfl, hc2⟩ := ints_at hc (by omega)
    exact Or.inr ⟨b, off, rfl, World.block_lt_of_cell? w _ (hc2 0 (by omega)), fun k hk => hc2 k (by omega)⟩

theorem hex_walk (a : Option Addr) (len cap : Nat) (zs : List Int) (w : World)
    (h : (a = none ∧ len = 0 ∧ cap = 0 ∧ zs = []) ∨ ∃ x, a = some x ∧ len ≤ cap ∧ cap ≤ maxLen ∧ zs.length = cap ∧ (∀ i, i < zs.length → w.cell? (x.add i) = some (.int .u8 (zs.getD i 0))) ∧ ∀ n ∈ zs, (Lit.int .u8 n).wf = true) :
    Calls Trym.prog 4 #[.slice a len cap] w fun e w' => e = .returned (.bool true) ∧ Below w.heap.size w w' := by
  rcases h with ⟨rfl, rfl, rfl, rfl⟩ | ⟨x, rfl, hlc, _, hz, hc, hw⟩
  · exact hex_nil w
  · by_cases hl : (len : Int) ≤ 1048576
    · exact hex_some x len cap _ w hl (rowAt_of w x len cap zs hlc hz hc) (fun k _ => range_u8 hw k)
    · clear hc hw
      go_enter Trym.func4, Trym.ntmps4
      go_wp2
      go_ret
      exact ⟨rfl, Below.refl _ _⟩

end Go.Proofs.Qxb6600158aMods
