import Derived.Test.Qxb6628546aProg
import Derived.Test.Qxb6628546aPlain
import Derived.WalkKit
import Derived.WalkSpells
import Derived.WalkLawsBesides
import Derived.Deep.QuietTactic
import Derived.BigQuiet
namespace Go.Proofs.Qxb6628546a
open Go.RowKit

/-- The slice that begins at 'a' holds the bytes 'd'. -/
def ByteRow (w : World) (a : Option Addr) (d : List Int) : Prop :=
  ∀ j, j < d.length → ∃ b off, a = some ⟨b, off, none⟩ ∧ b < w.heap.size ∧ ∀ t, t < d.length → w.cell? ⟨b, off + t, none⟩ = some (.int .u8 (d.getD t 0))
theorem ByteRow.empty (w : World) (a : Option Addr) {d : List Int} (h : d.length = 0) : ByteRow w a d := fun j hj => absurd hj (by omega)
theorem ByteRow.below {w w' : World} {a : Option Addr} {d : List Int} (h : ByteRow w a d) (hb : Below w.heap.size w w') : ByteRow w' a d := fun j hj => by
  obtain ⟨b, off, rfl, hlt, hc⟩ := h j hj
  exact ⟨b, off, rfl, Nat.lt_of_lt_of_le hlt hb.size, fun t ht => (hb.cell (p := ⟨b, off + t, none⟩) hlt).trans (hc t ht)⟩
theorem ByteRow.drewN {w : World} {a : Option Addr} {d : List Int} (h : ByteRow w a d) (n : Nat) : ByteRow (w.drewN n) a d := h
theorem below_trans {w w1 w2 : World} (h1 : Below w.heap.size w w1) (h2 : Below w1.heap.size w1 w2) : Below w.heap.size w w2 := h1.trans (h2.mono h1.size)
theorem below_drewN (w : World) (n : Nat) : Below w.heap.size w (w.drewN n) := ⟨rfl, rfl, rfl, Nat.le_refl _, fun _ _ => rfl⟩
theorem hid {p : Prop} (h : p) : Hid p := h

/-- A call that answers v and only reads, in an open order. -/
def Tells (w : World) (v : Value) (e : Ending) (w' : World) : Prop := e = .returned v ∧ ∃ n, w' = w.drewN n
/-- It says yes; nothing old has turned. -/
def Yes (w : World) (e : Ending) (w' : World) : Prop := e = .returned (.bool true) ∧ Below w.heap.size w w'
theorem int_eq {k : IntKind} {a b : Int} (h : a = b) : Value.int k a = .int k b := by rw [h]
end Go.Proofs.Qxb6628546a
