/-
  PLAIN: sorted and compacted, a list is strictly ascending and holds the same strings.
-/
import Derived.Test.Qxb6628504aPlain
import Derived.Lib.RowBridge
namespace Go.Proofs.Qxb6628504a

/-- 'ws' names what 'ss' names, once each, strictly ascending. -/
structure Win (ss ws : List S) : Prop where
  asc : Asc ws
  mem : ∀ x, x ∈ ws ↔ x ∈ ss
  len : ws.length ≤ ss.length

theorem get!_toArray (zs : List S) (i : Nat) (h : i < zs.length) : zs.toArray[i]! = zs.getD i [] := by
  rw [getElem!_pos _ i (by simpa using h)]; simp [h]

theorem compact_inv (zs : List S) (hs : zs.Pairwise (· ≤ ·)) : ∀ m, m ≤ zs.length →
    Asc (Lib.compactUpTo zs.toArray m) ∧ ∀ x, x ∈ Lib.compactUpTo zs.toArray m ↔ x ∈ zs.take m
  | 0, _ => by
    have e : Lib.compactUpTo zs.toArray 0 = [] := rfl
    rw [e]; exact ⟨List.Pairwise.nil, by simp⟩
  | m + 1, hm => by
    obtain ⟨ih1, ih2⟩ := compact_inv zs hs m (by omega)
    have hmm : m < zs.length := by omega
    rw [Lib.compactUpTo_succ, take_snoc hmm, get!_toArray zs m hmm]
    by_cases hk : Lib.keeps zs.toArray m = true
    · rw [if_pos hk]
      refine ⟨asc_snoc ih1 fun y hy => ?_, fun x => by simp [ih2 x]⟩
      have hy' := (ih2 y).1 hy
      obtain ⟨i, hi, rfl⟩ := List.mem_iff_getElem.1 hy'
      simp only [List.length_take] at hi
      have him : i < m := by omega
      have hm0 : m ≠ 0 := by omega
      have hne : zs.getD m [] ≠ zs.getD (m - 1) [] := by
        have := hk
        simp only [Lib.keeps, decide_eq_true_eq, hm0, false_or] at this
        rwa [get!_toArray zs m hmm, get!_toArray zs (m - 1) (by omega)] at this
      have le1 : zs.getD (m - 1) [] ≤ zs.getD m [] := by
        have := (List.pairwise_iff_getElem.1 hs) (m - 1) m (by omega) hmm (by omega)
        simpa [hmm, show m - 1 < zs.length by omega] using this
      have le2 : (zs.take m)[i] ≤ zs.getD (m - 1) [] := by
        rw [List.getElem_take]
        by_cases e : i = m - 1
        · subst e; rw [show zs.getD (m - 1) [] = zs[m - 1] by simp [show m - 1 < zs.length by omega]]; exact List.le_refl _
        · have := (List.pairwise_iff_getElem.1 hs) i (m - 1) (by omega) (by omega) (by omega)
          simpa [show m - 1 < zs.length by omega] using this
      exact lt_of_le_of_lt le2 (lt_of_le_of_ne le1 (Ne.symm hne))
    · rw [if_neg hk, List.append_nil]
      refine ⟨ih1, fun x => ?_⟩
      have hm0 : m ≠ 0 := by intro e; subst e; simp [Lib.keeps] at hk
      have he : zs.getD m [] = zs.getD (m - 1) [] := by
        have := hk
        simp only [Lib.keeps, decide_eq_true_eq, hm0, false_or, Decidable.not_not] at this
        rwa [get!_toArray zs m hmm, get!_toArray zs (m - 1) (by omega)] at this
      rw [ih2 x, List.mem_append, List.mem_singleton]
      constructor
      · exact Or.inl
      · rintro (h | h)
        · exact h
        · rw [h, he]
          have : m - 1 < (zs.take m).length := by simp; omega
          have h2 := List.getElem_mem this
          rw [List.getElem_take] at h2
          simpa [show m - 1 < zs.length by omega] using h2

theorem win_compact (ss : List S) : Win ss (Lib.compact (ss.mergeSort fun x y => decide (x ≤ y))) := by
  have hs : (ss.mergeSort fun x y => decide (x ≤ y)).Pairwise (· ≤ ·) := by
    have := List.pairwise_mergeSort (le := fun x y : S => decide (x ≤ y)) (fun a b c h1 h2 => by simp only [decide_eq_true_eq] at *; exact le_trans h1 h2) (fun a b => by simpa using List.le_total a b) ss
    simpa using this
  obtain ⟨h1, h2⟩ := compact_inv _ hs _ (Nat.le_refl _)
  refine ⟨h1, fun x => ?_, ?_⟩
  · rw [Lib.compact, h2 x, List.take_length]
    exact (List.mergeSort_perm ss _).mem_iff
  · have := Lib.compact_length_le (ss.mergeSort fun x y => decide (x ≤ y))
    simpa using this

theorem Win.same {a b x y : List S} (h1 : Win a x) (h2 : Win b y) (h : ∀ s, s ∈ a ↔ s ∈ b) : x = y :=
  asc_ext h1.asc h2.asc fun s => by rw [h1.mem, h2.mem, h s]
end Go.Proofs.Qxb6628504a
