import Derived.Test.Qxb6628546aWalkC
import Derived.ProofKit
namespace Go.Proofs.Qxb6628546a
open Go.ChangeShapes Go.WideShapes Go.ChangeAt Go.RowKit

/-- A slice of integers that came in: nil, or a row of 'cap' cells. -/
def IsRow (k : IntKind) (w : World) (a : Option Addr) (len cap : Nat) (zs : List Int) : Prop :=
  (a = none ∧ len = 0 ∧ cap = 0 ∧ zs = []) ∨
  ∃ x, a = some x ∧ len ≤ cap ∧ cap ≤ maxLen ∧ zs.length = cap ∧ (∀ i, i < zs.length → w.cell? (x.add i) = some (.int k (zs.getD i 0))) ∧ ∀ n ∈ zs, (Lit.int k n).wf = true

theorem cell_lt {w : World} {b o : Nat} {v : Value} (h : w.cell? ⟨b, o, none⟩ = some v) : b < w.heap.size := by
  rcases Nat.lt_or_ge b w.heap.size with h1 | h1
  · exact h1
  · simp [World.cell?, Array.getElem?_eq_none h1] at h

theorem row_len {w : World} {a : Option Addr} {len cap : Nat} {zs : List Int} (h : IsRow .u8 w a len cap zs) : len ≤ zs.length := by
  rcases h with ⟨rfl, rfl, rfl, rfl⟩ | ⟨x, rfl, hl, hm, hz, hcell, _⟩
  · exact Nat.le_refl _
  · omega
theorem row_nil {w : World} {a : Option Addr} {len cap : Nat} {zs : List Int} (h : IsRow .u8 w a len cap zs) (ha : a = none) : len = 0 ∧ cap = 0 := by
  rcases h with ⟨_, h1, h2, _⟩ | ⟨x, h1, _⟩
  · exact ⟨h1, h2⟩
  · rw [ha] at h1; cases h1
theorem row_of {w : World} {a : Option Addr} {len cap : Nat} {zs : List Int} (h : IsRow .u8 w a len cap zs) : len ≤ cap ∧ len ≤ maxLen ∧ ByteRow w a (zs.take len) := by
  rcases h with ⟨rfl, rfl, rfl, rfl⟩ | ⟨x, rfl, hl, hm, hz, hcell, _⟩
  · exact ⟨Nat.le_refl _, Nat.zero_le _, ByteRow.empty _ _ (by simp)⟩
  · refine ⟨hl, by omega, fun j hj => ?_⟩
    simp only [List.length_take] at hj
    obtain ⟨b, off, spot⟩ := x
    have hspot : spot = none := by simpa [Addr.add] using World.cell?_spot (hcell 0 (by omega))
    subst hspot
    have hc : ∀ t, t < zs.length → w.cell? ⟨b, off + t, none⟩ = some (.int .u8 (zs.getD t 0)) := fun t ht => by rw [← add_plain]; exact hcell t ht
    refine ⟨b, off, rfl, cell_lt (hc 0 (by omega)), fun t ht => ?_⟩
    simp only [List.length_take] at ht
    rw [hc t (by omega), getD_take (by omega)]
end Go.Proofs.Qxb6628546a
