/-
  THE PLAIN LAWS: lists of byte strings, strictly ascending: no Go in sight.
-/
namespace Go.Proofs.Qxb6628504a
abbrev S := List UInt8
theorem lt_irrefl (a : S) : ¬ a < a := List.lt_irrefl a
theorem lt_trans {a b c : S} (h : a < b) (h2 : b < c) : a < c := List.lt_trans h h2
theorem le_of_lt {a b : S} (h : a < b) : a ≤ b := List.le_of_lt h
theorem le_trans {a b c : S} (h : a ≤ b) (h2 : b ≤ c) : a ≤ c := List.le_trans h h2
theorem lt_of_le_of_ne {a b : S} (h : a ≤ b) (h2 : a ≠ b) : a < b := by
  rcases List.le_total a b with h3 | h3 <;> exact Decidable.byContradiction fun h4 => h2 (List.le_antisymm h (List.not_lt.1 h4))
theorem lt_of_le_of_lt {a b c : S} (h : a ≤ b) (h2 : b < c) : a < c := List.lt_of_le_of_lt h h2
theorem lt_asymm {a b : S} (h : a < b) : ¬ b < a := List.lt_asymm h
theorem not_lt {a b : S} : ¬ a < b ↔ b ≤ a := List.not_lt
theorem eq_of {a b : S} (h : ¬ a < b) (h2 : ¬ b < a) : a = b := List.le_antisymm (List.not_lt.1 h2) (List.not_lt.1 h)

/-- Strictly ascending. -/
def Asc (l : List S) : Prop := l.Pairwise (· < ·)

theorem asc_ext : ∀ {a b : List S}, Asc a → Asc b → (∀ x, x ∈ a ↔ x ∈ b) → a = b
  | [], [], _, _, _ => rfl
  | [], y :: b, _, _, h => absurd ((h y).2 (by simp)) (by simp)
  | x :: a, [], _, _, h => absurd ((h x).1 (by simp)) (by simp)
  | x :: a, y :: b, ha, hb, h => by
    unfold Asc at ha hb
    rw [List.pairwise_cons] at ha hb
    have hxy : x = y := by
      apply eq_of
      · intro hlt
        have hx := (h x).1 (by simp)
        rcases List.mem_cons.1 hx with e | hm
        · subst e; exact lt_irrefl _ hlt
        · exact lt_asymm hlt (hb.1 x hm)
      · intro hlt
        have hy := (h y).2 (by simp)
        rcases List.mem_cons.1 hy with e | hm
        · subst e; exact lt_irrefl _ hlt
        · exact lt_asymm hlt (ha.1 y hm)
    subst hxy
    congr 1
    refine asc_ext (a := a) (b := b) ha.2 hb.2 fun z => ⟨fun hz => ?_, fun hz => ?_⟩
    · rcases List.mem_cons.1 ((h z).1 (List.mem_cons_of_mem _ hz)) with e | hm
      · subst e; exact absurd (ha.1 _ hz) (lt_irrefl _)
      · exact hm
    · rcases List.mem_cons.1 ((h z).2 (List.mem_cons_of_mem _ hz)) with e | hm
      · subst e; exact absurd (hb.1 _ hz) (lt_irrefl _)
      · exact hm

/-! ### the merge -/
structure MInv (a b : List S) (i j : Nat) (out : List S) : Prop where
  asc : Asc out
  mem : ∀ x, x ∈ out ↔ x ∈ a.take i ∨ x ∈ b.take j
  la : ∀ x ∈ out, ∀ y ∈ a.drop i, x < y
  lb : ∀ x ∈ out, ∀ y ∈ b.drop j, x < y
  len : out.length ≤ i + j

theorem MInv.start (a b : List S) : MInv a b 0 0 [] := ⟨List.Pairwise.nil, by simp, by simp, by simp, by simp⟩

theorem asc_snoc {l : List S} {x : S} (h : Asc l) (hx : ∀ y ∈ l, y < x) : Asc (l ++ [x]) := by
  unfold Asc at *
  rw [List.pairwise_append]
  exact ⟨h, by simp, fun a ha b hb => by simp at hb; subst hb; exact hx a ha⟩

theorem drop_cons {a : List S} {i : Nat} (hi : i < a.length) : a.drop i = a.getD i [] :: a.drop (i + 1) := by
  rw [List.drop_eq_getElem_cons hi]; simp [hi]
theorem take_snoc {a : List S} {i : Nat} (hi : i < a.length) : a.take (i + 1) = a.take i ++ [a.getD i []] := by
  rw [List.take_succ_eq_append_getElem hi]; simp [hi]
theorem asc_drop {a : List S} {i : Nat} (ha : Asc a) (hi : i < a.length) : ∀ y ∈ a.drop (i + 1), a.getD i [] < y := by
  have h : Asc (a.drop i) := List.Pairwise.drop ha
  rw [drop_cons hi] at h
  exact (List.pairwise_cons.1 h).1

theorem MInv.pushA {a b : List S} {i j : Nat} {out : List S} (h : MInv a b i j out) (ha : Asc a) (hi : i < a.length) (hb : ∀ y ∈ b.drop j, a.getD i [] < y) : MInv a b (i + 1) j (out ++ [a.getD i []]) where
  asc := asc_snoc h.asc fun y hy => h.la y hy _ (by rw [drop_cons hi]; simp)
  mem := fun x => by rw [take_snoc hi]; simp only [List.mem_append, List.mem_singleton, h.mem x]; exact or_right_comm
  la := fun x hx y hy => by
    rcases List.mem_append.1 hx with hx | hx
    · exact h.la x hx y (by rw [drop_cons hi]; exact List.mem_cons_of_mem _ hy)
    · simp only [List.mem_singleton] at hx; subst hx; exact asc_drop ha hi y hy
  lb := fun x hx y hy => by
    rcases List.mem_append.1 hx with hx | hx
    · exact h.lb x hx y hy
    · simp only [List.mem_singleton] at hx; subst hx; exact hb y hy
  len := by have := h.len; simp; omega

theorem MInv.flip {a b : List S} {i j : Nat} {out : List S} (h : MInv a b i j out) : MInv b a j i out :=
  ⟨h.asc, fun x => by rw [h.mem x]; exact Or.comm, h.lb, h.la, by have := h.len; omega⟩
theorem MInv.pushB {a b : List S} {i j : Nat} {out : List S} (h : MInv a b i j out) (hb : Asc b) (hj : j < b.length) (ha : ∀ y ∈ a.drop i, b.getD j [] < y) : MInv a b i (j + 1) (out ++ [b.getD j []]) :=
  (h.flip.pushA hb hj ha).flip

theorem lt_drop {a : List S} {i : Nat} {x : S} (ha : Asc a) (hi : i < a.length) (hx : x < a.getD i []) : ∀ y ∈ a.drop i, x < y := by
  intro y hy
  rw [drop_cons hi] at hy
  rcases List.mem_cons.1 hy with e | hm
  · subst e; exact hx
  · exact lt_trans hx (asc_drop ha hi y hm)

theorem MInv.pushAB {a b : List S} {i j : Nat} {out : List S} (h : MInv a b i j out) (ha : Asc a) (hb : Asc b) (hi : i < a.length) (hj : j < b.length) (he : a.getD i [] = b.getD j []) : MInv a b (i + 1) (j + 1) (out ++ [a.getD i []]) where
  asc := asc_snoc h.asc fun y hy => h.la y hy _ (by rw [drop_cons hi]; simp)
  mem := fun x => by rw [take_snoc hi, take_snoc hj, ← he]; simp only [List.mem_append, List.mem_singleton, h.mem x]; exact or_or_distrib_right
  la := fun x hx y hy => by
    rcases List.mem_append.1 hx with hx | hx
    · exact h.la x hx y (by rw [drop_cons hi]; exact List.mem_cons_of_mem _ hy)
    · simp only [List.mem_singleton] at hx; subst hx; exact asc_drop ha hi y hy
  lb := fun x hx y hy => by
    rcases List.mem_append.1 hx with hx | hx
    · exact h.lb x hx y (by rw [drop_cons hj]; exact List.mem_cons_of_mem _ hy)
    · simp only [List.mem_singleton] at hx; subst hx; rw [he]; exact asc_drop hb hj y hy
  len := by have := h.len; simp; omega

theorem MInv.done {a b : List S} {out : List S} {i j : Nat} (h : MInv a b i j out) (hi : a.length ≤ i) (hj : b.length ≤ j) : Asc out ∧ ∀ x, x ∈ out ↔ x ∈ a ∨ x ∈ b := by
  refine ⟨h.asc, fun x => ?_⟩
  have := h.mem x
  rwa [List.take_of_length_le hi, List.take_of_length_le hj] at this

/-! ### the search by bisection -/
theorem asc_get {a : List S} (ha : Asc a) {i j : Nat} (hij : i < j) (hj : j < a.length) : a.getD i [] < a.getD j [] := by
  have hi : i < a.length := by omega
  have := (List.pairwise_iff_getElem.1 ha) i j hi hj hij
  simpa [hi, hj] using this

structure BInv (a : List S) (s : S) (lo hi : Nat) : Prop where
  le : lo ≤ hi
  top : hi ≤ a.length
  below : ∀ t, t < lo → a.getD t [] < s
  above : ∀ t, hi ≤ t → t < a.length → ¬ a.getD t [] < s
theorem BInv.start (a : List S) (s : S) : BInv a s 0 a.length := ⟨Nat.zero_le _, Nat.le_refl _, fun t h => absurd h (by omega), fun t h1 h2 => absurd h1 (by omega)⟩
theorem BInv.up {a : List S} {s : S} {lo hi m : Nat} (h : BInv a s lo hi) (ha : Asc a) (h1 : lo ≤ m) (h2 : m < hi) (hm : a.getD m [] < s) : BInv a s (m + 1) hi :=
  ⟨by omega, h.top, fun t ht => by
    by_cases e : t = m
    · subst e; exact hm
    · exact lt_trans (asc_get ha (show t < m by omega) (by have := h.top; omega)) hm, h.above⟩
theorem BInv.down {a : List S} {s : S} {lo hi m : Nat} (h : BInv a s lo hi) (ha : Asc a) (h1 : lo ≤ m) (h2 : m < hi) (hm : ¬ a.getD m [] < s) : BInv a s lo m :=
  ⟨h1, by have := h.top; omega, h.below, fun t ht1 ht2 => by
    by_cases e : t = m
    · subst e; exact hm
    · exact fun hc => hm (lt_trans (asc_get ha (show m < t by omega) ht2) hc)⟩
theorem BInv.found {a : List S} {s : S} {lo i : Nat} (h : BInv a s lo lo) (ha : Asc a) (hi : i < a.length) (hs : a.getD i [] = s) : lo = i := by
  have h1 : ¬ i < lo := fun hc => lt_irrefl _ (hs ▸ h.below i hc)
  have h2 : ¬ lo < i := fun hc => h.above lo (Nat.le_refl _) (by omega) (hs ▸ asc_get ha hc hi)
  omega

/-! ### the hits -/
structure HInv (ws banks : List S) (k : Nat) (hs : List Bool) : Prop where
  len : hs.length = ws.length
  hit : ∀ t, t < ws.length → ws.getD t [] ∈ banks.take k → hs.getD t false = true
theorem HInv.start (ws banks : List S) : HInv ws banks 0 (List.replicate ws.length false) := ⟨by simp, by simp⟩
theorem HInv.step {ws banks : List S} {k i : Nat} {hs : List Bool} (h : HInv ws banks k hs) (ha : Asc ws) (hk : k < banks.length) (hi : i < ws.length) (he : ws.getD i [] = banks.getD k []) : HInv ws banks (k + 1) (hs.set i true) :=
  ⟨by simp [h.len], fun t ht hm => by
    rw [take_snoc hk] at hm
    have hlen := h.len
    by_cases e : t = i
    · subst e; simp [List.getD_eq_getElem?_getD, hlen, ht]
    · rcases List.mem_append.1 hm with hm | hm
      · have := h.hit t ht hm
        rw [List.getD_eq_getElem?_getD] at this ⊢
        rw [List.getElem?_set_ne (by omega)]; exact this
      · exfalso
        simp only [List.mem_singleton] at hm
        rcases Nat.lt_or_gt_of_ne e with c | c
        · have h1 := asc_get ha c hi; rw [hm, he] at h1; exact lt_irrefl _ h1
        · have h1 := asc_get ha c ht; rw [hm, he] at h1; exact lt_irrefl _ h1⟩
theorem HInv.done {ws banks : List S} {k : Nat} {hs : List Bool} (h : HInv ws banks k hs) (hk : banks.length ≤ k) (hm : ∀ x, x ∈ ws → x ∈ banks) : ∀ t, t < ws.length → hs.getD t false = true := by
  intro t ht
  refine h.hit t ht ?_
  rw [List.take_of_length_le hk]
  exact hm _ (by simp [ht])

theorem mem_index {ws : List S} {x : S} (h : x ∈ ws) : ∃ i, i < ws.length ∧ ws.getD i [] = x := by
  obtain ⟨i, hi, e⟩ := List.mem_iff_getElem.1 h
  exact ⟨i, hi, by simp [hi, e]⟩

/-! ### least and greatest -/
structure LG (banks : List S) (k : Nat) (lo hi : S) : Prop where
  mlo : lo ∈ banks
  mhi : hi ∈ banks
  low : ∀ x ∈ banks.take k, ¬ x < lo
  high : ∀ x ∈ banks.take k, ¬ hi < x
theorem getD_mem {l : List S} {k : Nat} (hk : k < l.length) : l.getD k [] ∈ l := by simp [hk]
theorem LG.start {banks : List S} (h : 0 < banks.length) : LG banks 1 (banks.getD 0 []) (banks.getD 0 []) := by
  have e : banks.take 1 = [banks.getD 0 []] := by have := take_snoc h; simpa using this
  exact ⟨getD_mem h, getD_mem h, by rw [e]; intro x hx; simp only [List.mem_singleton] at hx; subst hx; exact lt_irrefl _, by rw [e]; intro x hx; simp only [List.mem_singleton] at hx; subst hx; exact lt_irrefl _⟩
theorem LG.step {banks : List S} {k : Nat} {lo hi : S} (h : LG banks k lo hi) (hk : k < banks.length) :
    LG banks (k + 1) (if banks.getD k [] < lo then banks.getD k [] else lo) (if hi < banks.getD k [] then banks.getD k [] else hi) where
  mlo := by split <;> first | exact getD_mem hk | exact h.mlo
  mhi := by split <;> first | exact getD_mem hk | exact h.mhi
  low := fun x hx => by
    rw [take_snoc hk] at hx
    rcases List.mem_append.1 hx with hx | hx
    · split
      · exact fun hc => h.low x hx (lt_trans hc ‹_›)
      · exact h.low x hx
    · simp only [List.mem_singleton] at hx; subst hx
      split
      · exact lt_irrefl _
      · assumption
  high := fun x hx => by
    rw [take_snoc hk] at hx
    rcases List.mem_append.1 hx with hx | hx
    · split
      · exact fun hc => h.high x hx (lt_trans ‹_› hc)
      · exact h.high x hx
    · simp only [List.mem_singleton] at hx; subst hx
      split
      · exact lt_irrefl _
      · assumption
theorem LG.ends {banks ws : List S} {k : Nat} {lo hi : S} (h : LG banks k lo hi) (hk : banks.length ≤ k) (ha : Asc ws) (hm : ∀ x, x ∈ ws ↔ x ∈ banks) :
    1 ≤ ws.length ∧ ws.getD 0 [] = lo ∧ ws.getD (ws.length - 1) [] = hi := by
  have hlow := h.low; have hhigh := h.high
  rw [List.take_of_length_le hk] at hlow hhigh
  obtain ⟨i, hi1, hi2⟩ := mem_index ((hm lo).2 h.mlo)
  obtain ⟨j, hj1, hj2⟩ := mem_index ((hm hi).2 h.mhi)
  refine ⟨by omega, ?_, ?_⟩
  · by_cases e : i = 0
    · subst e; exact hi2
    · exact absurd (hi2 ▸ asc_get ha (show 0 < i by omega) hi1) (hlow _ ((hm _).1 (getD_mem (by omega))))
  · by_cases e : j = ws.length - 1
    · subst e; exact hj2
    · exact absurd (hj2 ▸ asc_get ha (show j < ws.length - 1 by omega) (by omega)) (hhigh _ ((hm _).1 (getD_mem (by omega))))
end Go.Proofs.Qxb6628504a
