/-
  THE PLAIN LAWS: where a line ends in a list of bytes; no Go in sight.
-/
namespace Go.Proofs.Qxb6628546a

/-- A byte that ends a line. -/
def isEnd (c : Int) : Bool := c == 10 || c == 13
/-- The other byte of a pair. -/
def mate (c : Int) : Int := if c = 10 then 13 else 10

/-- Where the first line end stands (the length, where there is none). -/
def fb : List Int → Nat
  | [] => 0
  | c :: r => if isEnd c then 0 else fb r + 1

theorem fb_le : ∀ d : List Int, fb d ≤ d.length
  | [] => Nat.le_refl _
  | c :: r => by
    unfold fb
    split
    · exact Nat.zero_le _
    · have := fb_le r; simp; omega
theorem fb_before : ∀ (d : List Int) (j : Nat), j < fb d → isEnd (d.getD j 0) = false
  | [], j, h => absurd h (by simp [fb])
  | c :: r, j, h => by
    unfold fb at h
    split at h
    · omega
    · rename_i hc
      match j with
      | 0 => simpa using hc
      | j + 1 => have := fb_before r j (by omega); simpa using this
theorem fb_at : ∀ (d : List Int), fb d < d.length → isEnd (d.getD (fb d) 0) = true
  | [], h => absurd h (by simp)
  | c :: r, h => by
    unfold fb
    split
    · rename_i hc; simpa using hc
    · rename_i hc
      have h1 : fb r < r.length := by unfold fb at h; rw [if_neg hc] at h; simpa using h
      have := fb_at r h1
      simpa using this
theorem fb_unique {d : List Int} {i : Nat} (hi : i < d.length) (h1 : ∀ j, j < i → isEnd (d.getD j 0) = false) (h2 : isEnd (d.getD i 0) = true) : fb d = i := by
  have hle := fb_le d
  rcases Nat.lt_trichotomy (fb d) i with h | h | h
  · have := h1 _ h
    rw [fb_at d (by omega)] at this
    cases this
  · exact h
  · have := fb_before d i h
    rw [h2] at this
    cases this
theorem fb_none {d : List Int} (h1 : ∀ j, j < d.length → isEnd (d.getD j 0) = false) : fb d = d.length := by
  have hle := fb_le d
  rcases Nat.lt_or_ge (fb d) d.length with h | h
  · have := h1 _ h
    rw [fb_at d h] at this
    cases this
  · omega

/-- How far one call advances, and how long its token is. -/
def adv (d : List Int) (eof : Bool) : Nat :=
  if fb d < d.length then
    (if fb d + 1 < d.length ∧ d.getD (fb d + 1) 0 = mate (d.getD (fb d) 0) then fb d + 2 else if fb d + 1 < d.length ∨ eof = true then fb d + 1 else 0)
  else (if eof = true then d.length else 0)
def tl (d : List Int) : Nat := fb d

theorem adv_pos {d : List Int} (h : 0 < d.length) : 0 < adv d true := by
  unfold adv; split
  · split
    · omega
    · simp
  · simp; omega
theorem adv_le (d : List Int) (e : Bool) : adv d e ≤ d.length := by
  have := fb_le d
  unfold adv; split
  · split
    · omega
    · split <;> omega
  · split <;> omega
theorem tl_le {d : List Int} {e : Bool} (h : 0 < adv d e) : tl d ≤ adv d e := by
  have := fb_le d
  unfold adv tl at *
  split
  · split
    · omega
    · split
      · omega
      · rename_i h1 h2 h3; rw [if_pos h1, if_neg h2, if_neg h3] at h; omega
  · split
    · omega
    · rename_i h1 h2; rw [if_neg h1, if_neg h2] at h; omega

/-- What a call that is not at the end of input gives stays as it is, whatever follows. -/
theorem getD_take {d : List Int} {m j : Nat} (h : j < m) : (d.take m).getD j 0 = d.getD j 0 := by
  simp [List.getD_eq_getElem?_getD, h]
theorem adv_more {d : List Int} {m : Nat} (h : 0 < adv (d.take m) false) : adv (d.take m) false = adv d true ∧ tl (d.take m) = tl d := by
  have hf : fb (d.take m) + 1 < (d.take m).length := by
    have := fb_le (d.take m)
    unfold adv at h
    split at h
    · split at h
      · omega
      · split at h
        · rename_i h3; simpa using h3
        · omega
    · simp at h
  have hl : (d.take m).length ≤ m := List.length_take_le _ _
  have hl2 : (d.take m).length ≤ d.length := by simp; omega
  have he : fb d = fb (d.take m) := by
    refine fb_unique (by omega) (fun j hj => ?_) ?_
    · rw [← getD_take (m := m) (by omega)]; exact fb_before _ _ hj
    · rw [← getD_take (m := m) (by omega)]; exact fb_at _ (by omega)
  refine ⟨?_, he.symm⟩
  have h2 : fb (d.take m) + 1 < d.length := by omega
  have g1 : (d.take m).getD (fb (d.take m) + 1) 0 = d.getD (fb (d.take m) + 1) 0 := getD_take (by omega)
  have g2 : (d.take m).getD (fb (d.take m)) 0 = d.getD (fb (d.take m)) 0 := getD_take (by omega)
  unfold adv
  rw [he, g1, g2, if_pos (show fb (d.take m) < (d.take m).length by omega), if_pos (show fb (d.take m) < d.length by omega)]
  by_cases hp : d.getD (fb (d.take m) + 1) 0 = mate (d.getD (fb (d.take m)) 0)
  · rw [if_pos ⟨hf, hp⟩, if_pos ⟨h2, hp⟩]
  · have n1 : ¬ (fb (d.take m) + 1 < (d.take m).length ∧ d.getD (fb (d.take m) + 1) 0 = mate (d.getD (fb (d.take m)) 0)) := fun x => hp x.2
    have n2 : ¬ (fb (d.take m) + 1 < d.length ∧ d.getD (fb (d.take m) + 1) 0 = mate (d.getD (fb (d.take m)) 0)) := fun x => hp x.2
    rw [if_neg n1, if_pos (Or.inl hf), if_neg n2, if_pos (Or.inl h2)]

/-- Every line: how far it goes, how long it is. -/
def linesF : Nat → List Int → List (Nat × Nat)
  | 0, _ => []
  | f + 1, d => if d.length = 0 then [] else (adv d true, tl d) :: linesF f (d.drop (adv d true))
theorem linesF_fuel : ∀ (f g : Nat) (d : List Int), d.length ≤ f → d.length ≤ g → linesF f d = linesF g d
  | 0, 0, _, _, _ => rfl
  | 0, g + 1, d, h, _ => by have : d.length = 0 := by omega
                            simp [linesF, this]
  | f + 1, 0, d, _, h => by have : d.length = 0 := by omega
                            simp [linesF, this]
  | f + 1, g + 1, d, h1, h2 => by
    unfold linesF
    by_cases h0 : d.length = 0
    · rw [if_pos h0, if_pos h0]
    · rw [if_neg h0, if_neg h0]
      have := adv_pos (d := d) (by omega)
      rw [linesF_fuel f g (d.drop (adv d true)) (by simp; omega) (by simp; omega)]
def lines (d : List Int) : List (Nat × Nat) := linesF d.length d
theorem lines_nil {d : List Int} (h : d.length = 0) : lines d = [] := by unfold lines; rw [h]; rfl
theorem lines_step {d : List Int} (h : 0 < d.length) : lines d = (adv d true, tl d) :: lines (d.drop (adv d true)) := by
  have hp := adv_pos h
  unfold lines
  obtain ⟨m, hm⟩ : ∃ m, d.length = m + 1 := ⟨d.length - 1, by omega⟩
  rw [hm]
  show (if d.length = 0 then [] else (adv d true, tl d) :: linesF m (d.drop (adv d true))) = _
  rw [if_neg (by omega), linesF_fuel m (d.drop (adv d true)).length _ (by simp; omega) (Nat.le_refl _)]

/-- The lines found so far and those that are left make all. -/
def Sofar (d : List Int) (off : Nat) (L : List (Nat × Nat)) : Prop := L ++ lines (d.drop off) = lines d
theorem Sofar.start (d : List Int) : Sofar d 0 [] := by simp [Sofar]
theorem Sofar.step {d : List Int} {off : Nat} {L : List (Nat × Nat)} (h : Sofar d off L) (ho : off < d.length) : Sofar d (off + adv (d.drop off) true) (L ++ [(adv (d.drop off) true, tl (d.drop off))]) := by
  unfold Sofar at *
  rw [← h, lines_step (d := d.drop off) (by simp; omega), List.drop_drop]
  simp
theorem Sofar.done {d : List Int} {off : Nat} {L : List (Nat × Nat)} (h : Sofar d off L) (ho : d.length ≤ off) : L = lines d := by
  unfold Sofar at h
  rw [lines_nil (d := d.drop off) (by simp; omega)] at h
  simpa using h
theorem Sofar.len {d : List Int} {off : Nat} {L : List (Nat × Nat)} (h : Sofar d off L) : L.length ≤ (lines d).length := by
  unfold Sofar at h
  rw [← h]; simp
theorem lines_len : ∀ (f : Nat) (d : List Int), (linesF f d).length ≤ f
  | 0, _ => Nat.le_refl _
  | f + 1, d => by
    unfold linesF
    split
    · exact Nat.zero_le _
    · have := lines_len f (d.drop (adv d true)); simp; omega
theorem lines_le (d : List Int) : (lines d).length ≤ d.length := lines_len _ _

/-- What isLineEnd asks. -/
def EndOk (d : List Int) (t A : Nat) : Prop :=
  (A = t ∧ A = d.length) ∨
  (A = t + 1 ∧ t < d.length ∧ isEnd (d.getD t 0) = true ∧ (t + 1 < d.length → d.getD (t + 1) 0 ≠ mate (d.getD t 0))) ∨
  (A = t + 2 ∧ t + 1 < d.length ∧ isEnd (d.getD t 0) = true ∧ d.getD (t + 1) 0 = mate (d.getD t 0))
theorem endOk {d : List Int} : EndOk d (tl d) (adv d true) := by
  have hle := fb_le d
  unfold EndOk adv tl
  by_cases h : fb d < d.length
  · rw [if_pos h]
    have hat := fb_at d h
    by_cases hp : fb d + 1 < d.length ∧ d.getD (fb d + 1) 0 = mate (d.getD (fb d) 0)
    · rw [if_pos hp]; exact .inr (.inr ⟨rfl, hp.1, hat, hp.2⟩)
    · rw [if_neg hp, if_pos (Or.inr rfl)]; exact .inr (.inl ⟨rfl, h, hat, fun h1 h2 => hp ⟨h1, h2⟩⟩)
  · rw [if_neg h, if_pos rfl]; exact .inl ⟨by omega, rfl⟩
theorem isEnd_iff {c : Int} : isEnd c = true ↔ c = 10 ∨ c = 13 := by simp [isEnd]
theorem not_isEnd {c : Int} : isEnd c = false ↔ c ≠ 10 ∧ c ≠ 13 := by simp [isEnd]
end Go.Proofs.Qxb6628546a
