import Derived.Test.Qxb6628592aWalkC
import Derived.Laws.AppendOwnNone
namespace Go.Proofs.Qxb6628592a
open Go.RowKit

/-- What ZZnewPart leaves. -/
def NewPart (w : World) (v : Value) (e : Ending) (w' : World) : Prop := e = .returned v ∧ Below w.heap.size w w'

set_option maxHeartbeats 4000000 in
set_option maxRecDepth 100000 in
theorem newPart_any (l f s : ByteArray) (nm : Bool) (ie : ByteArray) (rs : Bool) (na : Option Addr) (n nc : Nat) (w : World) :
    Calls Try.prog 17 #[.string l, .string f, .string s, .bool nm, .string ie, .bool rs, .slice na n nc] w (NewPart w (.agg #[.string l, .string f, .string s, .bool nm, .string ie, .bool rs, .slice na n nc])) := by
  go_enter Try.func17, Try.ntmps17
  go_wp2
  exact bodyPost_ret (v := .agg #[.string l, .string f, .string s, .bool nm, .string ie, .bool rs, .slice na n nc]) (by simp [results, Try.results17, go_sem]) rfl ⟨rfl, below_alloc _ _⟩

/-- The parts laid so far into the new template. -/
def BRel (w : World) (ps : List PartV) (k : Nat) (wr : World) : Prop :=
  ∃ xs : List Value, wr.ownsRow w.heap.size 43 7 (.slice (some ⟨w.heap.size, 0, none⟩) ps.length ps.length) ps.length xs ∧ Below w.heap.size w wr ∧ ∀ t p, t < k → ps[t]? = some p → CellsAt xs (t * 7) p
theorem brel_start {w w1 : World} {ps : List PartV} {xs : List Value} (hown : w1.ownsRow w.heap.size 43 7 (.slice (some ⟨w.heap.size, 0, none⟩) ps.length ps.length) ps.length xs) (hgrow : w.grownBy w1 none) : BRel w ps 0 w1 :=
  ⟨xs, hown, (Below.refl _ _).grown hgrow (Nat.le_refl _) (fun k h => by cases h), fun t p h => absurd h (by omega)⟩
theorem brel_step {w wr w2 : World} {ps : List PartV} {k : Nat} {p : PartV} (h : BRel w ps k wr) (hk : ps[k]? = some p) (hb : Below wr.heap.size wr w2) : BRel w ps (k + 1) (put7 w2 w.heap.size (k * 7) p) := by
  obtain ⟨xs, h1, h2, h3⟩ := h
  have hkl : k < ps.length := (List.getElem?_eq_some_iff.1 hk).1
  have hxl : xs.length = ps.length * 7 := h1.1
  refine ⟨over xs (k * 7) p, put7_own (own_below h1 hb), put7_below (below_trans h2 hb) (Nat.le_refl _), fun t r ht hr => ?_⟩
  by_cases e : t < k
  · exact over_other (h3 t r e hr) (.inl (by omega))
  · obtain rfl : t = k := by omega
    rw [hk] at hr
    cases hr
    exact over_at (by omega)
/-- What zzBuild leaves: a template that holds the parts. -/
def BuiltT (w : World) (ps : List PartV) (e : Ending) (w' : World) : Prop :=
  ∃ t a c, e = .returned (.pointer (some ⟨t, 0, none⟩)) ∧ w'.cell? ⟨t, 0, none⟩ = some (.slice a ps.length c) ∧ PRow w' a ps ∧ Below w.heap.size w w'
theorem brel_done {w wr : World} {ps : List PartV} {a : Option Addr} (h : BRel w ps ps.length wr) (hp : PRow w a ps) : BuiltT w ps (.returned (.pointer (some ⟨wr.heap.size, 0, none⟩))) (wr.alloc (.cells #[.slice (some ⟨w.heap.size, 0, none⟩) ps.length ps.length] 47)) := by
  obtain ⟨xs, h1, h2, h3⟩ := h
  refine ⟨wr.heap.size, some ⟨w.heap.size, 0, none⟩, ps.length, rfl, by simp, ?_, below_trans h2 (below_alloc _ _)⟩
  refine pRow_of (own_below h1 (below_alloc _ _)) (Nat.le_refl _) fun t q hq => ?_
  have ht : t < ps.length := (List.getElem?_eq_some_iff.1 hq).1
  obtain ⟨b, off, _, _, hc⟩ := hp t ht
  exact ⟨h3 t q ht hq, ((hc t q hq).2.below h2).below (below_alloc _ _)⟩

set_option maxHeartbeats 4000000 in
set_option maxRecDepth 100000 in
theorem build_any (a : Option Addr) (c : Nat) (ps : List PartV) (w : World) (hp : PRow w a ps) (hn : ps.length ≤ 65537) :
    Calls Try.prog 9 #[.slice a ps.length c] w (BuiltT w ps) := by
  obtain ⟨i0, hi, hz0, hz1, hz2⟩ := info_parts Try.info43
  have HP : Hid (PRow w a ps) := hp
  go_enter Try.func9, Try.ntmps9
  go_wp2_with (at_make; go_must (refine wpList_make_full _ rfl _ _ 39 rfl w.heap.size 43 i0 (.agg cellsZ) 7 Try.underlying39 hi hz0 hz1 .i64 .i64 _ _ ps.length rfl rfl rfl rfl (by rw [hz2]; omega) (by unfold maxLen; omega) (Nat.le_refl _) ?_); intro w1 hown hgrow)
  have hst : BRel w ps 0 w1 := brel_start hown hgrow
  clear hown hgrow
  go_loopw [4] (fun i wr => ∃ k : Nat, k ≤ ps.length ∧ i = .int .i64 k ∧ BRel w ps k wr) (fun i _ => ps.length - (intOf i).toNat)
  case atStart => exact ⟨0, Nat.zero_le _, rfl, hst⟩
  case round =>
    clear hst
    obtain ⟨k, hk, rfl, hR⟩ := hrel
    by_cases hlt : k < ps.length
    · have hR' := hR
      obtain ⟨xs, hown, hnx, _⟩ := hR'
      obtain ⟨b, off, rfl, hb, hc⟩ := hp k hlt
      obtain ⟨p, hpk⟩ : ∃ p, ps[k]? = some p := ⟨_, List.getElem?_eq_getElem hlt⟩
      obtain ⟨hat, hok⟩ := hc k p hpk
      obtain ⟨c0, c1, c2, c3, c4, c5, c6⟩ := hat.below hnx hb
      have HPK : Hid (ps[k]? = some p) := hpk
      obtain ⟨l, f, s, nm, ie, rs, na, nc, names⟩ := p
      simp only at c0 c1 c2 c3 c4 c5 c6
      clear hc hp hat hok hpk HP
      go_wp2_with fail
      refine (newPart_any l f s nm ie rs na names.length nc _).mono ?_
      rintro e w2 ⟨rfl, hb2⟩
      have hb2' := below_trans (below_alloc wr _) hb2
      obtain ⟨⟨v0, e0⟩, ⟨v1, e1⟩, ⟨v2, e2⟩, ⟨v3, e3⟩, ⟨v4, e4⟩, ⟨v5, e5⟩, ⟨v6, e6⟩, efz⟩ := seven_of (own_below hown hb2') hlt
      clear hown hb2
      have R : Hid (BRel w ps (k + 1) (put7 w2 w.heap.size (k * 7) ⟨l, f, s, nm, ie, rs, na, nc, names⟩)) := brel_step (p := ⟨l, f, s, nm, ie, rs, na, nc, names⟩) hR HPK.out hb2'
      clear HPK hR
      go_wp2_with fail
      go_roundw
      case rel => exact ⟨k + 1, by omega, by go_num, R.out⟩
      case measure => simp [intOf]; omega
    · obtain rfl : k = ps.length := by omega
      clear hp
      go_wp2
      go_ret
      exact brel_done hR HP.out
end Go.Proofs.Qxb6628592a
