/-
  FnMatchingIsLongestCommonPrefixWithinBase from what the row's step hands over.
-/
import Derived.Test.Qxb6600158aModsMatchG
import Derived.OpenShut
import Derived.Deep.Matrix
namespace Go.Proofs.Qxb6600158aMods
open Go.RowKit Plain

/-- A slice of bytes as the row's step hands it over. -/
theorem rowAt_of (w : World) (x : Addr) (len cap : Nat) (zs : List Int) (hlc : len ≤ cap) (hz : zs.length = cap)
    (hc : ∀ i, i < zs.length → w.cell? (x.add i) = some (.int .u8 (zs.getD i 0))) : RowAt w x len (fun k => zs.getD k 0) := by
  by_cases h : len = 0
  · exact Or.inl (by omega)
  · obtain ⟨b, off, rfl, hc2⟩ := ints_at hc (by omega)
    exact Or.inr ⟨b, off, rfl, World.block_lt_of_cell? w _ (hc2 0 (by omega)), fun k hk => hc2 k (by omega)⟩

theorem addr_of_cell (w : World) (x : Addr) (v : Value) (h : w.cell? (x.add 0) = some v) : ∃ b off, x = ⟨b, off, none⟩ := by
  obtain ⟨b, off, spot⟩ := x
  have hspot : spot = none := by simpa [Addr.add] using World.cell?_spot h
  subst hspot
  exact ⟨b, off, rfl⟩

theorem match_walk (a0 : Option Addr) (N cap : Nat) (A : Nat → Option Addr) (L C : Nat → Nat) (Z : Nat → List Int) (a : Option Addr) (T cT : Nat) (zs : List Int) (p : Int) (w : World)
    (h0 : (a0 = none ∧ N = 0 ∧ cap = 0) ∨ ∃ x, a0 = some x ∧ N ≤ cap ∧ cap ≤ maxLen ∧ ∀ r, r < cap → w.cell? (x.add r) = some (.slice (A r) (L r) (C r)) ∧ L r ≤ C r ∧ C r ≤ maxLen ∧ (Z r).length = C r ∧ (∀ n ∈ Z r, (Lit.int .u8 n).wf = true) ∧ (A r = none → C r = 0) ∧
        ∀ a', A r = some a' → 0 ≤ a'.block ∧ ∀ c, c < C r → w.cell? (a'.add c) = some (.int .u8 ((Z r).getD c 0)))
    (h1 : (a = none ∧ T = 0 ∧ cT = 0 ∧ zs = []) ∨ ∃ x, a = some x ∧ T ≤ cT ∧ cT ≤ maxLen ∧ zs.length = cT ∧ (∀ i, i < zs.length → w.cell? (x.add i) = some (.int .u8 (zs.getD i 0))) ∧ ∀ n ∈ zs, (Lit.int .u8 n).wf = true) :
    Calls Trym.prog 8 #[.slice a0 N cap, .slice a T cT, .int .i64 p] w fun e w' => e = .returned (.bool true) ∧ Below w.heap.size w w' := by
  have ht : InRow w a T cT (fun k => zs.getD k 0) ∧ T ≤ maxLen := by
    rcases h1 with ⟨rfl, rfl, rfl, rfl⟩ | ⟨x, rfl, hlc, hm, hz, hc, _⟩
    · exact ⟨Or.inl ⟨rfl, rfl, rfl⟩, Nat.zero_le _⟩
    · exact ⟨Or.inr ⟨x, rfl, rowAt_of w x T cT zs hlc hz hc⟩, Nat.le_trans hlc hm⟩
  rcases h0 with ⟨rfl, rfl, rfl⟩ | ⟨x, rfl, hN, hcap, hr⟩
  · exact match_zero none 0 a T cT _ p w (fun _ => rfl) ht.2 ht.1
  · by_cases hz : N = 0
    · subst hz
      exact match_zero (some x) cap a T cT _ p w (fun h => by cases h) ht.2 ht.1
    · obtain ⟨b, off, rfl⟩ := addr_of_cell w x _ (hr 0 (by omega)).1
      refine match_some b off N cap A L C (fun i k => (Z i).getD k 0) a T cT _ p w (Nat.le_trans hN hcap) ht.2 ?_ ?_ ?_ ht.1
      · have h := (hr 0 (by omega)).1
        rw [Go.WideShapes.add_plain] at h
        exact World.block_lt_of_cell? w _ h
      · intro i hi
        have h := (hr i (by omega)).1
        rw [Go.WideShapes.add_plain] at h
        exact h
      · intro i hi
        obtain ⟨_, h2, h3, h4, _, h6, h7⟩ := hr i (by omega)
        cases hA : A i with
        | none =>
          have := h6 hA
          exact Or.inl ⟨rfl, by omega, by omega⟩
        | some a' => exact Or.inr ⟨a', rfl, rowAt_of w a' (L i) (C i) (Z i) h2 h4 (fun c hc => (h7 a' hA).2 c (by omega))⟩

end Go.Proofs.Qxb6600158aMods
