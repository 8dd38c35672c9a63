/-
  WORDS FOR THE WALKS: a slice of strings that lies in memory; what later worlds keep of it.
-/
import Derived.Test.Qxb6628504aProg
import Derived.Test.Qxb6628504aPlain
import Derived.WalkKit
import Derived.WalkSpells
import Derived.WalkLawsBesides
import Derived.Deep.QuietTactic
import Derived.BigQuiet
namespace Go.Proofs.Qxb6628504a
open Go.RowKit

/-- The slice that begins at 'a' holds the strings 'ss'. -/
def StrRow (w : World) (a : Option Addr) (ss : List S) : Prop :=
  ∀ j, j < ss.length → ∃ b off, a = some ⟨b, off, none⟩ ∧ b < w.heap.size ∧ ∀ t, t < ss.length → w.cell? ⟨b, off + t, none⟩ = some (.string ⟨(ss.getD t []).toArray⟩)

theorem StrRow.nil (w : World) (a : Option Addr) : StrRow w a [] := fun j h => absurd h (by simp)

theorem StrRow.below {w w' : World} {a : Option Addr} {ss : List S} (h : StrRow w a ss) (hb : Below w.heap.size w w') : StrRow w' a ss := fun j hj => by
  obtain ⟨b, off, rfl, hlt, hc⟩ := h j hj
  exact ⟨b, off, rfl, Nat.lt_of_lt_of_le hlt hb.size, fun t ht => (hb.cell (p := ⟨b, off + t, none⟩) hlt).trans (hc t ht)⟩

theorem below_trans {w w1 w2 : World} (h1 : Below w.heap.size w w1) (h2 : Below w1.heap.size w1 w2) : Below w.heap.size w w2 := h1.trans (h2.mono h1.size)
theorem below_drewN (w : World) (n : Nat) : Below w.heap.size w (w.drewN n) := ⟨rfl, rfl, rfl, Nat.le_refl _, fun _ _ => rfl⟩

def PAny (_ : Bool) : Prop := True
/-- A call that answers a bool and only reads. -/
def Says (w : World) (p : Bool → Prop) (e : Ending) (w' : World) : Prop := ∃ r : Bool, e = .returned (.bool r) ∧ w' = w ∧ p r
theorem says {w : World} {p : Bool → Prop} (r : Bool) (h : p r) : Says w p (.returned (.bool r)) w := ⟨r, rfl, rfl, h⟩

theorem below_from_drewN {B n : Nat} {w wr w' : World} (h1 : Below B w wr) (h2 : Below B (wr.drewN n) w') : Below B w w' := h1.trans ⟨h2.os, h2.tape, h2.output, h2.size, h2.block⟩
/-- A call that answers v and only reads, in an open order. -/
def Tells (w : World) (v : Value) (e : Ending) (w' : World) : Prop := e = .returned v ∧ ∃ n, w' = w.drewN n
theorem bytesLess_eq : ∀ (x y : List UInt8), Op.bytesLess x y = decide (x < y)
  | [], [] => by simp [Op.bytesLess]
  | _ :: _, [] => by simp [Op.bytesLess]
  | [], _ :: _ => by simp [Op.bytesLess]
  | a :: x, b :: y => by
    rw [Op.bytesLess, bytesLess_eq x y, Bool.eq_iff_iff]
    simp [List.cons_lt_cons_iff]

/-- How a string lies in its cell. -/
abbrev enc (l : S) : Value := .string ⟨l.toArray⟩
theorem Try.info9 : (Try.prog.info? 9).map (fun i => (i.zero, i.size, i.bytes)) = some (some (.string ByteArray.empty), 1, 16) := by kernel_rfl

/-- An append of one string, behind it. -/
theorem own_push {B : Nat} {w wr w1 : World} {v v' : Value} {o : Obj} {out : List S} {x : S} (hB : B ≤ wr.heap.size) (hown : wr.ownsRow B 9 1 v out.length (out.map enc)) (hnx : Below B w wr)
    (hown' : w1.ownsRow B 9 1 v' (out.length + 1) (out.map enc ++ [enc x])) (hgrow : (wr.alloc o).grownBy w1 v.ownBlock) :
    w1.ownsRow B 9 1 v' (out ++ [x]).length ((out ++ [x]).map enc) ∧ Below B w w1 :=
  ⟨by simpa using hown', (hnx.alloc hB o).grown hgrow (by simp; omega) (fun j hj => (hown.lt j hj).1)⟩

/-- 'out = append(out, x)' at a slice of strings of the call's own, x laid in a new block first. -/
theorem wpList_push {X : World} {ops : Array Oper} {rest : List Oper} {o : Oper} {a : Act} {Q : Exit → Act → World → Prop} {B : Nat} {v : Value} {out : List S} {x : S}
    (hg : o.guard = none) (s y : Operand) (ho : o.op = Op.call { callee := Callee.builtin Builtin.append, args := #[s, y], argTypes := #[22, 22] }) (hv : a.eval s = v)
    {m : Nat} (hy : a.eval y = .slice (some ⟨m, 0, none⟩) 1 1) (hm : m = X.heap.size) (hB : B ≤ X.heap.size) (hn : out.length ≤ 1048576) (hown : X.ownsRow B 9 1 v out.length (out.map enc))
    (hk : ∀ v' w', w'.ownsRow B 9 1 v' (out ++ [x]).length ((out ++ [x]).map enc) → Below B X w' → wpList Try.prog ops Q rest (a.put o.dst v') w') :
    wpList Try.prog ops Q (o :: rest) a (X.alloc (.cells #[enc x] 9)) := by
  subst hm
  obtain ⟨i0, hi, hz0, hz1, hz2⟩ := info_parts Try.info9
  refine wpList_append_own _ hg s y 22 ho B 9 i0 (.string ByteArray.empty) 1 16 Try.underlying22 hi hz0 hz1 hz2 rfl (by decide) v out.length (out.map enc) hv (hown.alloc _) ⟨X.heap.size, 0, none⟩ 1 1 [enc x] hy rfl ?_ ?_ (by unfold maxLen; omega) (by omega) (by simp; omega) ?_
  · intro j u hj
    match j, hj with
    | 0, hj => simp at hj; subst hj; simp [Addr.add]
  · intro u hu; simp at hu; subst hu; rfl
  · intro v' w' hown' hgrow _
    have R := own_push (w := X) (x := x) hB hown (Below.refl _ _) hown' hgrow
    exact hk v' w' R.1 R.2

/-- What is owned can be read. -/
theorem row_of_owns {B : Nat} {w : World} {v : Value} {out : List S} (h : w.ownsRow B 9 1 v out.length (out.map enc)) : ∃ a c, v = .slice a out.length c ∧ StrRow w a out := by
  rcases h.2 with ⟨rfl, h0⟩ | ⟨g, cap, cur, rfl, hb, hg, h1, h2, h3, h4⟩
  · have : out = [] := List.length_eq_zero_iff.1 h0
    subst this
    exact ⟨none, 0, rfl, StrRow.nil _ _⟩
  · refine ⟨_, cap, rfl, fun j hj => ⟨g, 0, rfl, (Array.getElem?_eq_some_iff.1 hg).1, fun t ht => ?_⟩⟩
    have := h.cellAt t (by simpa using ht)
    rw [Nat.zero_add, this]
    simp [ht]
end Go.Proofs.Qxb6628504a
