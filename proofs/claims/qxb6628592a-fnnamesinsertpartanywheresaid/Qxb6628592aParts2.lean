import Derived.Test.Qxb6628592aLawA
import Derived.Test.Qxb6628592aWalkH
namespace Go.Proofs.Qxb6628592a
open Go.RowKit

/-- A slice of the call's own that holds the parts 'T'. -/
def POwn (B : Nat) (wr : World) (v : Value) (T : List PartV) : Prop := ∃ cs, wr.ownsRow B 34 7 v T.length cs ∧ ∀ t q, T[t]? = some q → CellsAt cs (t * 7) q
theorem POwn.alloc {B : Nat} {wr : World} {v : Value} {T : List PartV} (h : POwn B wr v T) (o : Obj) : POwn B (wr.alloc o) v T := by
  obtain ⟨cs, h1, h2⟩ := h
  exact ⟨cs, h1.alloc o, h2⟩

/-- The cells of one part. -/
def cells7 (p : PartV) : List Value := [.string p.l, .string p.f, .string p.s, .bool p.nm, .string p.ie, .bool p.rs, .slice p.na p.names.length p.nc]
theorem cellsAt_left {cs ds : List Value} {o : Nat} {q : PartV} (h : CellsAt cs o q) (hl : o + 6 < cs.length) : CellsAt (cs ++ ds) o q := by
  obtain ⟨a0, a1, a2, a3, a4, a5, a6⟩ := h
  refine ⟨?_, ?_, ?_, ?_, ?_, ?_, ?_⟩ <;> rw [List.getElem?_append_left (by omega)] <;> assumption
theorem cellsAt_right {cs : List Value} {q : PartV} : CellsAt (cs ++ cells7 q) cs.length q := by
  refine ⟨?_, ?_, ?_, ?_, ?_, ?_, ?_⟩ <;> rw [List.getElem?_append_right (by omega)]
  · rw [Nat.sub_self]; rfl
  · rw [Nat.add_sub_cancel_left]; rfl
  · rw [Nat.add_sub_cancel_left]; rfl
  · rw [Nat.add_sub_cancel_left]; rfl
  · rw [Nat.add_sub_cancel_left]; rfl
  · rw [Nat.add_sub_cancel_left]; rfl
  · rw [Nat.add_sub_cancel_left]; rfl

/-- 'make([]Part, 0, n)'. -/
theorem wpList_makeP {X : World} {ops : Array Oper} {rest : List Oper} {o : Oper} {a : Act} {Q : Exit → Act → World → Prop} {B n : Nat} {C : Int}
    (hg : o.guard = none) (l c : Operand) (ho : o.op = Op.makeSlice 22 l c) (hl : a.eval l = .int .i64 0) (hc : a.eval c = .int .i64 C) (hC : C = n) (hn : n ≤ 1048576) (hB : B ≤ X.heap.size)
    (hk : ∀ v' w', POwn B w' v' [] → Below B X w' → wpList Try.prog ops Q rest (a.put o.dst v') w') :
    wpList Try.prog ops Q (o :: rest) a X := by
  obtain ⟨i0, hi, hz0, hz1, hz2⟩ := info_parts Try.info34
  refine wpList_make_own _ hg l c 22 ho B 34 i0 _ 7 Try.underlying22 hi hz0 hz1 .i64 .i64 C n hl hc hC (by rw [hz2]; omega) (by unfold maxLen; omega) hB ?_
  intro w' hown hgrow
  exact hk _ w' ⟨[], hown, fun t q h => by simp at h⟩ ((Below.refl _ _).grown hgrow hB (fun k h => by cases h))

/-- 'out = append(out, p)'. -/
theorem wpList_pushP {X : World} {ops : Array Oper} {rest : List Oper} {o : Oper} {a : Act} {Q : Exit → Act → World → Prop} {B : Nat} {v : Value} {T : List PartV} {p : PartV}
    (hg : o.guard = none) (s y : Operand) (ho : o.op = Op.call { callee := Callee.builtin Builtin.append, args := #[s, y], argTypes := #[22, 22] }) (hv : a.eval s = v)
    {m : Nat} (hy : a.eval y = .slice (some ⟨m, 0, none⟩) 1 1) (hm : m = X.heap.size) (hB : B ≤ X.heap.size) (hn : T.length ≤ 1048576) (hown : POwn B X v T)
    (hk : ∀ v' w', POwn B w' v' (T ++ [p]) → Below B X w' → wpList Try.prog ops Q rest (a.put o.dst v') w') :
    wpList Try.prog ops Q (o :: rest) a (X.alloc (.cells #[.string p.l, .string p.f, .string p.s, .bool p.nm, .string p.ie, .bool p.rs, .slice p.na p.names.length p.nc] 34)) := by
  subst hm
  obtain ⟨cs, hown, hC⟩ := hown
  obtain ⟨i0, hi, hz0, hz1, hz2⟩ := info_parts Try.info34
  refine wpList_append_own _ hg s y 22 ho B 34 i0 (.agg cellsZ) 7 104 Try.underlying22 hi hz0 hz1 hz2 rfl (by decide) v T.length cs hv (hown.alloc _) ⟨X.heap.size, 0, none⟩ 1 1 (cells7 p) hy rfl ?_ ?_ (by unfold maxLen; omega) (by omega) (by simp; omega) ?_
  · intro j u hj
    unfold cells7 at hj
    match j, hj with
    | 0, hj => simp at hj; subst hj; simp [Addr.add]
    | 1, hj => simp at hj; subst hj; simp [Addr.add]
    | 2, hj => simp at hj; subst hj; simp [Addr.add]
    | 3, hj => simp at hj; subst hj; simp [Addr.add]
    | 4, hj => simp at hj; subst hj; simp [Addr.add]
    | 5, hj => simp at hj; subst hj; simp [Addr.add]
    | 6, hj => simp at hj; subst hj; simp [Addr.add]
  · intro u hu; unfold cells7 at hu; simp at hu; rcases hu with rfl | rfl | rfl | rfl | rfl | rfl | rfl <;> rfl
  · intro v' w' hown' hgrow _
    refine hk v' w' ⟨cs ++ cells7 p, ?_, fun t q ht => ?_⟩ (((Below.refl B X).alloc hB _).grown hgrow (by simp; omega) (fun j hj => (hown.lt j hj).1))
    · rw [List.length_append]; exact hown'
    · have hl : cs.length = T.length * 7 := hown.1
      by_cases e : t < T.length
      · rw [List.getElem?_append_left e] at ht
        exact cellsAt_left (hC t q ht) (by omega)
      · have htl : t = T.length := by
          have := (List.getElem?_eq_some_iff.1 ht).1
          simp at this; omega
        subst htl
        rw [List.getElem?_append_right (Nat.le_refl _), Nat.sub_self] at ht
        simp at ht
        subst ht
        rw [← hl]
        exact cellsAt_right

theorem POwn.row {B : Nat} {wr : World} {v : Value} {T : List PartV} (h : POwn B wr v T) (hok : ∀ (t : Nat) (q : PartV), T[t]? = some q → q.Ok wr) : ∃ a c, v = .slice a T.length c ∧ PRow wr a T := by
  obtain ⟨cs, h1, h2⟩ := h
  rcases h1.2 with ⟨rfl, h0⟩ | ⟨g, cap, cur, rfl, _⟩
  · exact ⟨none, 0, by rw [h0], fun j hj => absurd hj (by omega)⟩
  · exact ⟨_, cap, rfl, pRow_of h1 (Nat.le_refl _) (fun t q hq => ⟨h2 t q hq, hok t q hq⟩)⟩

/-- A store into another block leaves a row of parts. -/
theorem partAt_set {w : World} {b off : Nat} {p : PartV} {g j : Nat} {u : Value} (h : PartAt w b off p) (hne : b ≠ g) : PartAt (w.setCell ⟨g, j, none⟩ u) b off p :=
  ⟨(World.cell?_setCell_other _ _ _ _ (by intro e; cases e; exact hne rfl)).trans h.h0, (World.cell?_setCell_other _ _ _ _ (by intro e; cases e; exact hne rfl)).trans h.h1, (World.cell?_setCell_other _ _ _ _ (by intro e; cases e; exact hne rfl)).trans h.h2, (World.cell?_setCell_other _ _ _ _ (by intro e; cases e; exact hne rfl)).trans h.h3, (World.cell?_setCell_other _ _ _ _ (by intro e; cases e; exact hne rfl)).trans h.h4, (World.cell?_setCell_other _ _ _ _ (by intro e; cases e; exact hne rfl)).trans h.h5, (World.cell?_setCell_other _ _ _ _ (by intro e; cases e; exact hne rfl)).trans h.h6⟩
theorem partAt_put7 {w : World} {b off : Nat} {p q : PartV} {g o : Nat} (h : PartAt w b off p) (hne : b ≠ g) : PartAt (put7 w g o q) b off p :=
  partAt_set (partAt_set (partAt_set (partAt_set (partAt_set (partAt_set (partAt_set h hne) hne) hne) hne) hne) hne) hne
theorem size_put7 (w : World) (g o : Nat) (p : PartV) : (put7 w g o p).heap.size = w.heap.size := by simp [put7]
theorem pRow_put7 {w : World} {a : Option Addr} {qs : List PartV} {g o : Nat} {q : PartV} (h : PRow w a qs) (ha : ∀ x, a = some x → x.block ≠ g) (hq : ∀ (t : Nat) (p : PartV), qs[t]? = some p → ∀ x, p.na = some x → g < x.block) : PRow (put7 w g o q) a qs := fun j hj => by
  obtain ⟨b, off, rfl, hlt, hc⟩ := h j hj
  exact ⟨b, off, rfl, by rw [size_put7]; exact hlt, fun t p hp => ⟨partAt_put7 (hc t p hp).1 (ha _ rfl), (Off.put7 ⟨(hc t p hp).2, hq t p hp⟩).1⟩⟩
theorem sg_ne {w : World} {g i j : Nat} {u : Value} (h : i ≠ j) : (w.setCell ⟨g, i, none⟩ u).cell? ⟨g, j, none⟩ = w.cell? ⟨g, j, none⟩ := World.cell?_setCell_other _ _ _ _ (by intro e; cases e; exact h rfl)
theorem partAt_self {w : World} {g o : Nat} {p q : PartV} (h : PartAt w g o p) : PartAt (put7 w g o q) g o q := by
  obtain ⟨a0, a1, a2, a3, a4, a5, a6⟩ := h
  unfold put7
  refine ⟨?_, ?_, ?_, ?_, ?_, ?_, ?_⟩
  · rw [sg_ne (by omega), sg_ne (by omega), sg_ne (by omega), sg_ne (by omega), sg_ne (by omega), sg_ne (by omega)]
    exact World.cell?_setCell_same _ _ _ a0
  · rw [sg_ne (by omega), sg_ne (by omega), sg_ne (by omega), sg_ne (by omega), sg_ne (by omega)]
    exact World.cell?_setCell_same _ _ _ ((by rw [sg_ne (by omega)] : _ = _).trans a1)
  · rw [sg_ne (by omega), sg_ne (by omega), sg_ne (by omega), sg_ne (by omega)]
    exact World.cell?_setCell_same _ _ _ ((by rw [sg_ne (by omega), sg_ne (by omega)] : _ = _).trans a2)
  · rw [sg_ne (by omega), sg_ne (by omega), sg_ne (by omega)]
    exact World.cell?_setCell_same _ _ _ ((by rw [sg_ne (by omega), sg_ne (by omega), sg_ne (by omega)] : _ = _).trans a3)
  · rw [sg_ne (by omega), sg_ne (by omega)]
    exact World.cell?_setCell_same _ _ _ ((by rw [sg_ne (by omega), sg_ne (by omega), sg_ne (by omega), sg_ne (by omega)] : _ = _).trans a4)
  · rw [sg_ne (by omega)]
    exact World.cell?_setCell_same _ _ _ ((by rw [sg_ne (by omega), sg_ne (by omega), sg_ne (by omega), sg_ne (by omega), sg_ne (by omega)] : _ = _).trans a5)
  · exact World.cell?_setCell_same _ _ _ ((by rw [sg_ne (by omega), sg_ne (by omega), sg_ne (by omega), sg_ne (by omega), sg_ne (by omega), sg_ne (by omega)] : _ = _).trans a6)
end Go.Proofs.Qxb6628592a
