import Derived.Test.Qxb6628504aWords
namespace Go.Proofs.Qxb6628504a
open Go.RowKit

/-- A slice of awards that names the banks 'ss'. -/
def AwRow (w : World) (a : Option Addr) (ss : List S) : Prop :=
  ∀ j, j < ss.length → ∃ b off, a = some ⟨b, off, none⟩ ∧ b < w.heap.size ∧ ∀ t, t < ss.length → ∃ x y, w.cell? ⟨b, off + t * 3, none⟩ = some (enc (ss.getD t [])) ∧ w.cell? ⟨b, off + t * 3 + 1, none⟩ = some (.int .i64 x) ∧ w.cell? ⟨b, off + t * 3 + 2, none⟩ = some (.int .i64 y)

/-- A slice of int64. -/
def IntRow (w : World) (a : Option Addr) (n : Nat) : Prop :=
  ∀ j, j < n → ∃ b off x, a = some ⟨b, off, none⟩ ∧ b < w.heap.size ∧ w.cell? ⟨b, off + j, none⟩ = some (.int .i64 x)
theorem IntRow.below {w w' : World} {a : Option Addr} {n : Nat} (h : IntRow w a n) (hb : Below w.heap.size w w') : IntRow w' a n := fun j hj => by
  obtain ⟨b, off, x, rfl, hlt, hc⟩ := h j hj
  exact ⟨b, off, x, rfl, Nat.lt_of_lt_of_le hlt hb.size, (hb.cell (p := ⟨b, off + j, none⟩) hlt).trans hc⟩

/-- The awards' cells, one behind the other. -/
structure AwCells (ss : List S) (cs : List Value) : Prop where
  len : cs.length = ss.length * 3
  at_ : ∀ t, t < ss.length → ∃ x y, cs[t * 3]? = some (enc (ss.getD t [])) ∧ cs[t * 3 + 1]? = some (.int .i64 x) ∧ cs[t * 3 + 2]? = some (.int .i64 y)

theorem AwCells.nil : AwCells [] [] := ⟨rfl, fun t h => absurd h (by simp)⟩
theorem AwCells.push {ss : List S} {cs : List Value} (h : AwCells ss cs) (s : S) (x y : Int) : AwCells (ss ++ [s]) (cs ++ [enc s, .int .i64 x, .int .i64 y]) where
  len := by simp [h.len]; omega
  at_ := fun t ht => by
    have hl := h.len
    by_cases e : t < ss.length
    · obtain ⟨a, b, h1, h2, h3⟩ := h.at_ t e
      refine ⟨a, b, ?_, ?_, ?_⟩
      · rw [List.getElem?_append_left (by omega), h1, List.getD_eq_getElem?_getD, List.getD_eq_getElem?_getD, List.getElem?_append_left e]
      · rw [List.getElem?_append_left (by omega), h2]
      · rw [List.getElem?_append_left (by omega), h3]
    · have : t = ss.length := by simp at ht; omega
      subst this
      refine ⟨x, y, ?_, ?_, ?_⟩
      · rw [List.getElem?_append_right (by omega), hl, Nat.sub_self]; simp
      · rw [List.getElem?_append_right (by omega), hl, show ss.length * 3 + 1 - ss.length * 3 = 1 by omega]; rfl
      · rw [List.getElem?_append_right (by omega), hl, show ss.length * 3 + 2 - ss.length * 3 = 2 by omega]; rfl

/-- A slice value of the call's own that holds awards naming 'ss'. -/
def AwOwn (B : Nat) (wr : World) (v : Value) (ss : List S) : Prop := ∃ cs, wr.ownsRow B 43 3 v ss.length cs ∧ AwCells ss cs

theorem Try.info43 : (Try.prog.info? 43).map (fun i => (i.zero, i.size, i.bytes)) = some (some (.agg #[.string ByteArray.empty, .int .i64 0, .int .i64 0]), 3, 32) := by kernel_rfl

theorem AwOwn.row {B : Nat} {wr : World} {v : Value} {ss : List S} (h : AwOwn B wr v ss) : ∃ a c, v = .slice a ss.length c ∧ AwRow wr a ss := by
  obtain ⟨cs, h, hA⟩ := h
  rcases h.2 with ⟨rfl, h0⟩ | ⟨g, cap, cur, rfl, hb, hg, h1, h2, h3, h4⟩
  · have : ss = [] := List.length_eq_zero_iff.1 h0
    subst this
    exact ⟨none, 0, rfl, fun j hj => absurd hj (by simp)⟩
  · refine ⟨_, cap, rfl, fun j hj => ⟨g, 0, rfl, (Array.getElem?_eq_some_iff.1 hg).1, fun t ht => ?_⟩⟩
    obtain ⟨x, y, e1, e2, e3⟩ := hA.at_ t ht
    refine ⟨x, y, ?_, ?_, ?_⟩
    · rw [Nat.zero_add, h.cellAt (t * 3) (by omega), e1]
    · rw [Nat.zero_add, h.cellAt (t * 3 + 1) (by omega), e2]
    · rw [Nat.zero_add, h.cellAt (t * 3 + 2) (by omega), e3]

/-- 'make([]Award, 0, n)'. -/
theorem wpList_makeAw {X : World} {ops : Array Oper} {rest : List Oper} {o : Oper} {a : Act} {Q : Exit → Act → World → Prop} {B n : Nat} {C : Int}
    (hg : o.guard = none) (l c : Operand) (ho : o.op = Op.makeSlice 34 l c) (hl : a.eval l = .int .i64 0) (hc : a.eval c = .int .i64 C) (hC : C = n) (hn : n ≤ 1048576) (hB : B ≤ X.heap.size)
    (hk : ∀ v' w', AwOwn B w' v' [] → Below B X w' → wpList Try.prog ops Q rest (a.put o.dst v') w') :
    wpList Try.prog ops Q (o :: rest) a X := by
  obtain ⟨i0, hi, hz0, hz1, hz2⟩ := info_parts Try.info43
  refine wpList_make_own _ hg l c 34 ho B 43 i0 _ 3 Try.underlying34 hi hz0 hz1 .i64 .i64 C n hl hc hC (by rw [hz2]; omega) (by unfold maxLen; omega) hB ?_
  intro w' hown hgrow
  exact hk _ w' ⟨[], hown, AwCells.nil⟩ ((Below.refl _ _).grown hgrow hB (fun k h => by cases h))

/-- 'out = append(out, Award{s, x, y})'. -/
theorem wpList_pushAw {X : World} {ops : Array Oper} {rest : List Oper} {o : Oper} {a : Act} {Q : Exit → Act → World → Prop} {B : Nat} {v : Value} {ss : List S} {s : S} {x y : Int}
    (hg : o.guard = none) (p q : Operand) (ho : o.op = Op.call { callee := Callee.builtin Builtin.append, args := #[p, q], argTypes := #[34, 34] }) (hv : a.eval p = v)
    {m : Nat} (hy : a.eval q = .slice (some ⟨m, 0, none⟩) 1 1) (hm : m = X.heap.size) (hB : B ≤ X.heap.size) (hn : ss.length ≤ 1048576) (hown : AwOwn B X v ss)
    (hk : ∀ v' w', AwOwn B w' v' (ss ++ [s]) → Below B X w' → wpList Try.prog ops Q rest (a.put o.dst v') w') :
    wpList Try.prog ops Q (o :: rest) a (X.alloc (.cells #[enc s, .int .i64 x, .int .i64 y] 43)) := by
  subst hm
  obtain ⟨cs, hown, hA⟩ := hown
  obtain ⟨i0, hi, hz0, hz1, hz2⟩ := info_parts Try.info43
  refine wpList_append_own _ hg p q 34 ho B 43 i0 _ 3 32 Try.underlying34 hi hz0 hz1 hz2 rfl (by decide) v ss.length cs hv (hown.alloc _) ⟨X.heap.size, 0, none⟩ 1 1 [enc s, .int .i64 x, .int .i64 y] hy rfl ?_ ?_ (by unfold maxLen; omega) (by omega) (by simp; omega) ?_
  · intro j u hj
    match j, hj with
    | 0, hj => simp at hj; subst hj; simp [Addr.add]
    | 1, hj => simp at hj; subst hj; simp [Addr.add]
    | 2, hj => simp at hj; subst hj; simp [Addr.add]
  · intro u hu; simp at hu; rcases hu with rfl | rfl | rfl <;> rfl
  · intro v' w' hown' hgrow _
    refine hk v' w' ⟨_, ?_, hA.push s x y⟩ (((Below.refl B X).alloc hB _).grown hgrow (by simp; omega) (fun j hj => (hown.lt j hj).1))
    rw [List.length_append]; exact hown'
end Go.Proofs.Qxb6628504a
