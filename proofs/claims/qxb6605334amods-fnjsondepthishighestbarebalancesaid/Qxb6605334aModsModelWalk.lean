/-
  THE WALKS of zzBareBrackets and zzDepthModel.
-/
import Derived.Test.Qxb6605334aModsScan
import Derived.Test.Qxb6605334aModsModelPlain
namespace Go.Proofs.Qxb6605334aMods
open Go.RowKit Plain

theorem Trym.info5 : (Trym.prog.info? 5).map (fun i => (i.zero, i.size, i.bytes)) = some (some (.int .u8 0), 1, 1) := by kernel_rfl

theorem addr_add (b k : Nat) : (⟨b, 0, none⟩ : Addr).add k = ⟨b, k, none⟩ := by
  by_cases h : k = 0
  · subst h; rfl
  · simp [Addr.add, h]
theorem drop_int (l : List Int) (k : Nat) (h : k < l.length) : l.drop k = l[k]?.getD 0 :: l.drop (k + 1) := by
  rw [List.drop_eq_getElem_cons h, List.getElem?_eq_getElem h]; rfl

set_option maxHeartbeats 1000000 in
theorem brackets_any (s : ByteArray) (w : World) (hs : s.size ≤ 2000000) :
    Calls Trym.prog 18 #[.string s] w fun e w' => ∃ n : Nat, n = (br 0 s.data.toList).length ∧ n ≤ s.size ∧ e = .returned (.slice (some ⟨w.heap.size, 0, none⟩) n s.size) ∧ w'.ownsRow w.heap.size 5 1 (.slice (some ⟨w.heap.size, 0, none⟩) n s.size) n ((br 0 s.data.toList).map (Value.int .u8)) ∧ Below w.heap.size w w' := by
  obtain ⟨i0, hi, hz0, hz1, hz2⟩ := info_parts Trym.info5
  go_enter Trym.func18, Trym.ntmps18
  go_wp2_with (at_make; refine wpList_make_own _ rfl _ _ 27 rfl w.heap.size 5 i0 (.int .u8 0) 1 Trym.underlying27 hi hz0 hz1 _ _ _ s.size rfl rfl (by omega) ?b2 ?b3 (Nat.le_refl _) ?_)
  case b2 => rw [hz2]; omega
  case b3 => unfold maxLen; omega
  intro w0 hown0 hgrow0
  go_wp2
  go_loopw [3, 4, 5, 6] (fun out inS esc i wr => ∃ (k n m : Nat) (xs : List Int), k ≤ s.size ∧ n ≤ k ∧ m ≤ 2 ∧ inS = .bool (m != 0) ∧ esc = .bool (m == 2) ∧ i = .int .i64 k ∧ out = .slice (some ⟨w.heap.size, 0, none⟩) n s.size ∧
      wr.ownsRow w.heap.size 5 1 (.slice (some ⟨w.heap.size, 0, none⟩) n s.size) n (xs.map (Value.int .u8)) ∧ Hid (xs ++ br m (s.data.toList.drop k) = br 0 s.data.toList) ∧ Below w.heap.size w wr)
    (fun _ _ _ i _ => s.size - (intOf i).toNat)
  case atStart => exact ⟨0, 0, 0, [], by omega, by omega, by omega, rfl, rfl, rfl, rfl, hown0, (rfl : _ = _), (Below.refl _ _).grown hgrow0 (Nat.le_refl _) (fun k h => by cases h)⟩
  case round =>
    obtain ⟨k, n, m, xs, hk, hn, hm, rfl, rfl, rfl, rfl, hown, H, hnx⟩ := hrel
    by_cases hlt : k < s.size
    · have D : Hid (s.data.toList.drop k = s[k] :: s.data.toList.drop (k + 1)) := drop_at s k hlt
      match m, hm, H with
      | 0, _, H =>
        go_wp2_with (first
          | (at_builtin; refine wpList_append_fits _ rfl (.tmp 34) (.tmp 35) 27 rfl w.heap.size 5 i0 1 Trym.underlying27 hi hz1 w.heap.size n s.size _ rfl (hown.alloc _) ⟨wr.heap.size, 0, none⟩ 1 1 [.int .u8 40] rfl rfl (by intro t u ht; match t, ht with | 0, ht => simp at ht; subst ht; simp [Addr.add]) (by intro u hu; simp at hu; subst hu; rfl) (by omega) ?_; intro w1 hown1 hgrow1)
          | (at_builtin; refine wpList_append_fits _ rfl (.tmp 43) (.tmp 44) 27 rfl w.heap.size 5 i0 1 Trym.underlying27 hi hz1 w.heap.size n s.size _ rfl (hown.alloc _) ⟨wr.heap.size, 0, none⟩ 1 1 [.int .u8 41] rfl rfl (by intro t u ht; match t, ht with | 0, ht => simp at ht; subst ht; simp [Addr.add]) (by intro u hu; simp at hu; subst hu; rfl) (by omega) ?_; intro w1 hown1 hgrow1))
        · have e1 : (nb s[k] == 34) = true := by assumption
          go_roundw
          case rel => exact ⟨k + 1, n, 1, xs, by omega, by omega, by omega, rfl, rfl, by go_num, rfl, hown, (by rw [← br_quote _ _ e1, ← D.out, H.out] : _ = _), hnx⟩
          case measure => simp [intOf]; omega
        · have e1 : (nb s[k] == 34) = false := by assumption
          have e2 : nb s[k] = 123 := by assumption
          go_roundw
          case rel => exact ⟨k + 1, n + 1, 0, xs ++ [40], by omega, by omega, by omega, rfl, rfl, by go_num, rfl, by simpa using hown1, (by rw [List.append_assoc, List.singleton_append, ← br_open _ _ e1 (Or.inl (by rw [e2]; rfl)), ← D.out, H.out] : _ = _), (hnx.alloc hnx.size _).grown hgrow1 (by simp; have := hnx.size; omega) (fun k hk => by cases hk; exact Nat.le_refl _)⟩
          case measure => simp [intOf]; omega
        · have e1 : (nb s[k] == 34) = false := by assumption
          have e2 : (nb s[k] == 123) = true ∨ (nb s[k] == 91) = true := by assumption
          go_roundw
          case rel => exact ⟨k + 1, n + 1, 0, xs ++ [40], by omega, by omega, by omega, rfl, rfl, by go_num, rfl, by simpa using hown1, (by rw [List.append_assoc, List.singleton_append, ← br_open _ _ e1 e2, ← D.out, H.out] : _ = _), (hnx.alloc hnx.size _).grown hgrow1 (by simp; have := hnx.size; omega) (fun k hk => by cases hk; exact Nat.le_refl _)⟩
          case measure => simp [intOf]; omega
        · have e1 : (nb s[k] == 34) = false := by assumption
          have e2 : (nb s[k] == 123) = false ∧ (nb s[k] == 91) = false := by assumption
          have e3 : nb s[k] = 125 := by assumption
          go_roundw
          case rel => exact ⟨k + 1, n + 1, 0, xs ++ [41], by omega, by omega, by omega, rfl, rfl, by go_num, rfl, by simpa using hown1, (by rw [List.append_assoc, List.singleton_append, ← br_shut _ _ e1 e2 (Or.inl (by rw [e3]; rfl)), ← D.out, H.out] : _ = _), (hnx.alloc hnx.size _).grown hgrow1 (by simp; have := hnx.size; omega) (fun k hk => by cases hk; exact Nat.le_refl _)⟩
          case measure => simp [intOf]; omega
        · have e1 : (nb s[k] == 34) = false := by assumption
          have e2 : (nb s[k] == 123) = false ∧ (nb s[k] == 91) = false := by assumption
          have e3 : (nb s[k] == 125) = true ∨ (nb s[k] == 93) = true := by assumption
          go_roundw
          case rel => exact ⟨k + 1, n + 1, 0, xs ++ [41], by omega, by omega, by omega, rfl, rfl, by go_num, rfl, by simpa using hown1, (by rw [List.append_assoc, List.singleton_append, ← br_shut _ _ e1 e2 e3, ← D.out, H.out] : _ = _), (hnx.alloc hnx.size _).grown hgrow1 (by simp; have := hnx.size; omega) (fun k hk => by cases hk; exact Nat.le_refl _)⟩
          case measure => simp [intOf]; omega
        · have e1 : (nb s[k] == 34) = false := by assumption
          have e2 : (nb s[k] == 123) = false ∧ (nb s[k] == 91) = false := by assumption
          have e3 : (nb s[k] == 125) = false ∧ (nb s[k] == 93) = false := by assumption
          go_roundw
          case rel => exact ⟨k + 1, n, 0, xs, by omega, by omega, by omega, rfl, rfl, by go_num, rfl, hown, (by rw [← br_else _ _ e1 e2 e3, ← D.out, H.out] : _ = _), hnx⟩
          case measure => simp [intOf]; omega
      | 1, _, H =>
        go_wp2
        · have e1 : (nb s[k] == 92) = true := by assumption
          go_roundw
          case rel => exact ⟨k + 1, n, 2, xs, by omega, by omega, by omega, rfl, rfl, by go_num, rfl, hown, (by rw [← br_esc _ _ e1, ← D.out, H.out] : _ = _), hnx⟩
          case measure => simp [intOf]; omega
        · have e1 : (nb s[k] == 92) = false := by assumption
          have e2 : (nb s[k] == 34) = true := by assumption
          go_roundw
          case rel => exact ⟨k + 1, n, 0, xs, by omega, by omega, by omega, rfl, rfl, by go_num, rfl, hown, (by rw [← br_close _ _ e1 e2, ← D.out, H.out] : _ = _), hnx⟩
          case measure => simp [intOf]; omega
        · have e1 : (nb s[k] == 92) = false := by assumption
          have e2 : (nb s[k] == 34) = false := by assumption
          go_roundw
          case rel => exact ⟨k + 1, n, 1, xs, by omega, by omega, by omega, rfl, rfl, by go_num, rfl, hown, (by rw [← br_in _ _ e1 e2, ← D.out, H.out] : _ = _), hnx⟩
          case measure => simp [intOf]; omega
      | 2, _, H =>
        go_wp2
        go_roundw
        case rel => exact ⟨k + 1, n, 1, xs, by omega, by omega, by omega, rfl, rfl, by go_num, rfl, hown, (by rw [← br_cons2 s[k], ← D.out, H.out] : _ = _), hnx⟩
        case measure => simp [intOf]; omega
    · go_wp2
      go_ret
      have hh := H.out
      rw [drop_out s k (by omega), br_nil, List.append_nil] at hh
      have hl : n = xs.length := by have := hown.1; simpa using this.symm
      exact ⟨n, by rw [← hh]; exact hl, by omega, rfl, by rw [← hh]; exact hown, hnx⟩

set_option maxHeartbeats 1000000 in
theorem depthModel_any (s : ByteArray) (w : World) (hs : s.size ≤ 2000000) :
    Calls Trym.prog 13 #[.string s] w fun e w' => e = .returned (.int .i64 (jd 0 0 0 s.data.toList)) ∧ Below w.heap.size w w' := by
  go_enter Trym.func13, Trym.ntmps13
  go_wp2_with fail
  refine (brackets_any s w hs).mono ?_
  rintro e w' ⟨n, hn, hns, rfl, hown, hnx⟩
  have hc : ∀ k, k < n → w'.cell? ⟨w.heap.size, k, none⟩ = some (.int .u8 ((br 0 s.data.toList).getD k 0)) := by
    intro k hk
    have hh := hown.cells (g := w.heap.size) rfl k (.int .u8 ((br 0 s.data.toList).getD k 0)) (by
      rw [List.getElem?_map, List.getD_eq_getElem?_getD, List.getElem?_eq_getElem (by omega)]; rfl)
    rw [addr_add] at hh; exact hh
  have HN : Hid (n = (br 0 s.data.toList).length) := hn
  clear hown hn
  go_wp2
  go_loop [4, 5, 6] (fun best bal i => ∃ (k : Nat) (b c : Int), k ≤ n ∧ - (k : Int) ≤ c ∧ c ≤ k ∧ 0 ≤ b ∧ b ≤ k ∧ Hid (dm c b ((br 0 s.data.toList).drop k) = jd 0 0 0 s.data.toList) ∧ best = .int .i64 b ∧ bal = .int .i64 c ∧ i = .int .i64 k) (fun _ _ i => n - (intOf i).toNat)
  case atStart => exact ⟨0, 0, 0, by omega, by omega, by omega, by omega, by omega, (dm_br _ 0 0 0 (by omega) : _ = _), rfl, rfl, rfl⟩
  case round =>
    obtain ⟨k, b, c, hk, hc1, hc2, hb1, hb2, H, rfl, rfl, rfl⟩ := hrel
    by_cases hlt : k < n
    · have g := hc k hlt
      clear hc
      go_wp2
      · have e1 : ((br 0 s.data.toList)[k]?.getD 0 == 40) = true := by assumption
        have e2 : b < c + 1 := by assumption
        go_round
        case rel =>
          refine ⟨k + 1, c + 1, c + 1, by omega, by omega, by omega, by omega, by omega, ?_, by go_num, by go_num, by go_num⟩
          have hh := H.out
          rw [drop_int _ k (by have := HN.out; omega), dm_cons, if_pos e1, if_pos e2] at hh
          exact hh
        case measure => simp [intOf]; omega
      · have e1 : ((br 0 s.data.toList)[k]?.getD 0 == 40) = true := by assumption
        have e2 : c + 1 ≤ b := by assumption
        go_round
        case rel =>
          refine ⟨k + 1, b, c + 1, by omega, by omega, by omega, by omega, by omega, ?_, by go_num, by go_num, by go_num⟩
          have hh := H.out
          rw [drop_int _ k (by have := HN.out; omega), dm_cons, if_pos e1, if_neg (by omega)] at hh
          exact hh
        case measure => simp [intOf]; omega
      · have e1 : ((br 0 s.data.toList)[k]?.getD 0 == 40) = false := by assumption
        have e2 : b < c - 1 := by assumption
        go_round
        case rel =>
          refine ⟨k + 1, c - 1, c - 1, by omega, by omega, by omega, by omega, by omega, ?_, by go_num, by go_num, by go_num⟩
          have hh := H.out
          rw [drop_int _ k (by have := HN.out; omega), dm_cons, if_neg (no e1), if_pos e2] at hh
          exact hh
        case measure => simp [intOf]; omega
      · have e1 : ((br 0 s.data.toList)[k]?.getD 0 == 40) = false := by assumption
        have e2 : c - 1 ≤ b := by assumption
        go_round
        case rel =>
          refine ⟨k + 1, b, c - 1, by omega, by omega, by omega, by omega, by omega, ?_, by go_num, by go_num, by go_num⟩
          have hh := H.out
          rw [drop_int _ k (by have := HN.out; omega), dm_cons, if_neg (no e1), if_neg (by omega)] at hh
          exact hh
        case measure => simp [intOf]; omega
    · go_wp2
      go_ret
      have hh := H.out
      rw [List.drop_eq_nil_of_le (by have := HN.out; omega), dm_nil] at hh
      exact ⟨ret_int hh, hnx⟩

end Go.Proofs.Qxb6605334aMods
