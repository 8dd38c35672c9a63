import Derived.Test.Qxb6628592aProg
import Derived.WalkKit
import Derived.WalkSpells
import Derived.WalkLawsBesides
import Derived.Deep.QuietTactic
import Derived.BigQuiet
namespace Go.Proofs.Qxb6628592a
open Go.RowKit

abbrev S := List UInt8
abbrev enc (l : S) : Value := .string ⟨l.toArray⟩

/-- The slice that begins at 'a' holds the strings 'ss'. -/
def StrRow (w : World) (a : Option Addr) (ss : List S) : Prop :=
  ∀ j, j < ss.length → ∃ b off, a = some ⟨b, off, none⟩ ∧ b < w.heap.size ∧ ∀ t, t < ss.length → w.cell? ⟨b, off + t, none⟩ = some (.string ⟨(ss.getD t []).toArray⟩)
theorem StrRow.nil (w : World) (a : Option Addr) : StrRow w a [] := fun j h => absurd h (by simp)
theorem StrRow.below {w w' : World} {a : Option Addr} {ss : List S} (h : StrRow w a ss) (hb : Below w.heap.size w w') : StrRow w' a ss := fun j hj => by
  obtain ⟨b, off, rfl, hlt, hc⟩ := h j hj
  exact ⟨b, off, rfl, Nat.lt_of_lt_of_le hlt hb.size, fun t ht => (hb.cell (p := ⟨b, off + t, none⟩) hlt).trans (hc t ht)⟩
theorem below_trans {w w1 w2 : World} (h1 : Below w.heap.size w w1) (h2 : Below w1.heap.size w1 w2) : Below w.heap.size w w2 := h1.trans (h2.mono h1.size)
theorem below_drewN (w : World) (n : Nat) : Below w.heap.size w (w.drewN n) := ⟨rfl, rfl, rfl, Nat.le_refl _, fun _ _ => rfl⟩
theorem below_refl (w : World) : Below w.heap.size w w := Below.refl _ _
theorem below_alloc (w : World) (o : Obj) : Below w.heap.size w (w.alloc o) := (Below.refl _ _).alloc (Nat.le_refl _) _
theorem hid {p : Prop} (h : p) : Hid p := h

/-- One part, as its seven cells and the names that it leads to. -/
structure PartV where
  l : ByteArray
  f : ByteArray
  s : ByteArray
  nm : Bool
  ie : ByteArray
  rs : Bool
  na : Option Addr
  nc : Nat
  names : List S
/-- The value. -/
abbrev PartV.val (p : PartV) : Value := .agg #[.string p.l, .string p.f, .string p.s, .bool p.nm, .string p.ie, .bool p.rs, .slice p.na p.names.length p.nc]
/-- What is known of a part's own memory and lengths. -/
structure PartV.Ok (w : World) (p : PartV) : Prop where
  row : StrRow w p.na p.names
  cap : p.names.length ≤ p.nc
  nil : p.na = none → p.names.length = 0 ∧ p.nc = 0
  ln : p.names.length ≤ maxLen
  l1 : p.l.size ≤ maxLen
  l2 : p.f.size ≤ maxLen
  l3 : p.s.size ≤ maxLen
  l4 : p.ie.size ≤ maxLen
  l5 : ∀ t, t < p.names.length → (p.names.getD t []).length ≤ maxLen
theorem PartV.Ok.below {w w' : World} {p : PartV} (h : p.Ok w) (hb : Below w.heap.size w w') : p.Ok w' := ⟨h.row.below hb, h.cap, h.nil, h.ln, h.l1, h.l2, h.l3, h.l4, h.l5⟩

/-- The seven cells lie at b, off. -/
structure PartAt (w : World) (b off : Nat) (p : PartV) : Prop where
  h0 : w.cell? ⟨b, off, none⟩ = some (.string p.l)
  h1 : w.cell? ⟨b, off + 1, none⟩ = some (.string p.f)
  h2 : w.cell? ⟨b, off + 2, none⟩ = some (.string p.s)
  h3 : w.cell? ⟨b, off + 3, none⟩ = some (.bool p.nm)
  h4 : w.cell? ⟨b, off + 4, none⟩ = some (.string p.ie)
  h5 : w.cell? ⟨b, off + 5, none⟩ = some (.bool p.rs)
  h6 : w.cell? ⟨b, off + 6, none⟩ = some (.slice p.na p.names.length p.nc)

/-- The slice that begins at 'a' holds the parts 'ps'. -/
def PRow (w : World) (a : Option Addr) (ps : List PartV) : Prop :=
  ∀ j, j < ps.length → ∃ b off, a = some ⟨b, off, none⟩ ∧ b < w.heap.size ∧ ∀ t p, ps[t]? = some p → PartAt w b (off + t * 7) p ∧ p.Ok w
theorem PartAt.below {w w' : World} {b off : Nat} {p : PartV} (h : PartAt w b off p) (hb : Below w.heap.size w w') (hlt : b < w.heap.size) : PartAt w' b off p :=
  ⟨(hb.cell (p := ⟨_, _, none⟩) hlt).trans h.h0, (hb.cell (p := ⟨_, _, none⟩) hlt).trans h.h1, (hb.cell (p := ⟨_, _, none⟩) hlt).trans h.h2, (hb.cell (p := ⟨_, _, none⟩) hlt).trans h.h3, (hb.cell (p := ⟨_, _, none⟩) hlt).trans h.h4, (hb.cell (p := ⟨_, _, none⟩) hlt).trans h.h5, (hb.cell (p := ⟨_, _, none⟩) hlt).trans h.h6⟩
theorem PRow.below {w w' : World} {a : Option Addr} {ps : List PartV} (h : PRow w a ps) (hb : Below w.heap.size w w') : PRow w' a ps := fun j hj => by
  obtain ⟨b, off, rfl, hlt, hc⟩ := h j hj
  exact ⟨b, off, rfl, Nat.lt_of_lt_of_le hlt hb.size, fun t p ht => ⟨(hc t p ht).1.below hb hlt, (hc t p ht).2.below hb⟩⟩

/-- The weight by which zzPartsBytes bounds. -/
def wt (ps : List PartV) : Nat := (ps.map fun p => 64 + 16 * p.names.length).sum
/-- All names, in their order. -/
def flat (ps : List PartV) : List S := ps.flatMap (·.names)

/-- A call that answers a bool; nothing old has turned. -/
def Bools (w : World) (e : Ending) (w' : World) : Prop := ∃ r : Bool, e = .returned (.bool r) ∧ Below w.heap.size w w'
theorem bools {w w' : World} (r : Bool) (h : Below w.heap.size w w') : Bools w (.returned (.bool r)) w' := ⟨r, rfl, h⟩
/-- A count that ends above the bound, or is at least m. -/
def Counts (w : World) (m : Int) (e : Ending) (w' : World) : Prop := ∃ r : Int, e = .returned (.int .i64 r) ∧ Below w.heap.size w w' ∧ 0 ≤ r ∧ r ≤ 1048577 ∧ (r ≤ 1048576 → m ≤ r)
theorem counts {w w' : World} {m : Int} (r : Int) (h : Below w.heap.size w w') (h0 : 0 ≤ r) (h1 : r ≤ 1048577) (h2 : r ≤ 1048576 → m ≤ r) : Counts w m (.returned (.int .i64 r)) w' := ⟨r, rfl, h, h0, h1, h2⟩
/-- A call that answers v and only reads. -/
def Tells (w : World) (v : Value) (e : Ending) (w' : World) : Prop := e = .returned v ∧ ∃ n, w' = w.drewN n
/-- It says yes; nothing old has turned. -/
def Yes (w : World) (e : Ending) (w' : World) : Prop := e = .returned (.bool true) ∧ Below w.heap.size w w'
end Go.Proofs.Qxb6628592a
