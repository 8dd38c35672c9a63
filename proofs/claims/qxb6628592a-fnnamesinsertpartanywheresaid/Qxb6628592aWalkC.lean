import Derived.Test.Qxb6628592aWalkB
namespace Go.Proofs.Qxb6628592a
open Go.RowKit

theorem Try.info34 : (Try.prog.info? 34).map (fun i => (i.zero, i.size, i.bytes)) = some (some (.agg cellsZ), 7, 104) := by kernel_rfl
theorem Try.info43 : (Try.prog.info? 43).map (fun i => (i.zero, i.size, i.bytes)) = some (some (.agg cellsZ), 7, 104) := by kernel_rfl

/-- The seven cells in a list. -/
structure CellsAt (xs : List Value) (o : Nat) (p : PartV) : Prop where
  h0 : xs[o]? = some (.string p.l)
  h1 : xs[o + 1]? = some (.string p.f)
  h2 : xs[o + 2]? = some (.string p.s)
  h3 : xs[o + 3]? = some (.bool p.nm)
  h4 : xs[o + 4]? = some (.string p.ie)
  h5 : xs[o + 5]? = some (.bool p.rs)
  h6 : xs[o + 6]? = some (.slice p.na p.names.length p.nc)

/-- A part laid over seven cells. -/
def over (xs : List Value) (o : Nat) (p : PartV) : List Value :=
  ((((((xs.set o (.string p.l)).set (o + 1) (.string p.f)).set (o + 2) (.string p.s)).set (o + 3) (.bool p.nm)).set (o + 4) (.string p.ie)).set (o + 5) (.bool p.rs)).set (o + 6) (.slice p.na p.names.length p.nc)
theorem over_len (xs : List Value) (o : Nat) (p : PartV) : (over xs o p).length = xs.length := by simp [over]
theorem over_at {xs : List Value} {o : Nat} {p : PartV} (h : o + 6 < xs.length) : CellsAt (over xs o p) o p := by
  constructor <;> (unfold over; simp only [List.getElem?_set, List.length_set]) <;> repeat (first | rw [if_neg (by omega)] | rw [if_pos trivial, if_pos (by omega)])
theorem over_other {xs : List Value} {o o' : Nat} {p q : PartV} (h : CellsAt xs o' q) (hne : o' + 6 < o ∨ o + 6 < o') : CellsAt (over xs o p) o' q := by
  obtain ⟨a0, a1, a2, a3, a4, a5, a6⟩ := h
  constructor <;> (unfold over; simp only [List.getElem?_set, List.length_set]) <;> repeat (rw [if_neg (by omega)])
  · exact a0
  · exact a1
  · exact a2
  · exact a3
  · exact a4
  · exact a5
  · exact a6

/-- The world behind a store of a part. -/
def put7 (w : World) (g o : Nat) (p : PartV) : World :=
  ((((((w.setCell ⟨g, o, none⟩ (.string p.l)).setCell ⟨g, o + 1, none⟩ (.string p.f)).setCell ⟨g, o + 2, none⟩ (.string p.s)).setCell ⟨g, o + 3, none⟩ (.bool p.nm)).setCell ⟨g, o + 4, none⟩ (.string p.ie)).setCell ⟨g, o + 5, none⟩ (.bool p.rs)).setCell ⟨g, o + 6, none⟩ (.slice p.na p.names.length p.nc)
theorem put7_own {w : World} {B g n cap o : Nat} {e : TypeId} {xs : List Value} {p : PartV} (h : w.ownsRow B e 7 (.slice (some ⟨g, 0, none⟩) n cap) n xs) : (put7 w g o p).ownsRow B e 7 (.slice (some ⟨g, 0, none⟩) n cap) n (over xs o p) :=
  ((((((((h.stored o _).1.stored (o + 1) _).1.stored (o + 2) _).1.stored (o + 3) _).1.stored (o + 4) _).1.stored (o + 5) _).1.stored (o + 6) _).1)
theorem put7_below {B : Nat} {w0 w : World} {g o : Nat} {p : PartV} (h : Below B w0 w) (hg : B ≤ g) : Below B w0 (put7 w g o p) :=
  ((((((h.setCell hg _).setCell hg _).setCell hg _).setCell hg _).setCell hg _).setCell hg _).setCell hg _

/-- A part whose names do not lie in block g. -/
def Off (g : Nat) (w : World) (q : PartV) : Prop := q.Ok w ∧ ∀ x, q.na = some x → g < x.block
theorem strRow_set {w : World} {a : Option Addr} {ss : List S} {g j : Nat} {u : Value} (h : StrRow w a ss) (hne : ∀ x, a = some x → x.block ≠ g) : StrRow (w.setCell ⟨g, j, none⟩ u) a ss := fun i hi => by
  obtain ⟨b, off, rfl, hlt, hc⟩ := h i hi
  have hb : b ≠ g := hne _ rfl
  exact ⟨b, off, rfl, by simpa using hlt, fun t ht => (World.cell?_setCell_other _ _ _ _ (by intro e; cases e; exact hb rfl)).trans (hc t ht)⟩
theorem Off.set {g : Nat} {w : World} {q : PartV} (h : Off g w q) (j : Nat) (u : Value) : Off g (w.setCell ⟨g, j, none⟩ u) q :=
  ⟨⟨strRow_set h.1.row (fun x hx => Nat.ne_of_gt (h.2 x hx)), h.1.cap, h.1.nil, h.1.ln, h.1.l1, h.1.l2, h.1.l3, h.1.l4, h.1.l5⟩, h.2⟩
theorem Off.put7 {g o : Nat} {w : World} {p q : PartV} (h : Off g w q) : Off g (put7 w g o p) q :=
  ((((((h.set _ _).set _ _).set _ _).set _ _).set _ _).set _ _).set _ _
theorem Off.below {g : Nat} {w w' : World} {q : PartV} (h : Off g w q) (hb : Below w.heap.size w w') : Off g w' q := ⟨h.1.below hb, h.2⟩
theorem own_below {B : Nat} {w w' : World} {e : TypeId} {s n : Nat} {v : Value} {xs : List Value} (h : w.ownsRow B e s v n xs) (hb : Below w.heap.size w w') : w'.ownsRow B e s v n xs :=
  h.kept (row := none) ⟨hb.os, hb.tape, hb.output, hb.size, fun k hk _ => hb.block k hk⟩ (by cases v.ownBlock <;> simp)

/-- The clones laid so far. -/
def ORel (w : World) (ps : List PartV) (k : Nat) (wr : World) : Prop :=
  ∃ (xs : List Value) (qs : List PartV), wr.ownsRow w.heap.size 34 7 (.slice (some ⟨w.heap.size, 0, none⟩) ps.length ps.length) ps.length xs ∧ Below w.heap.size w wr ∧ qs.length = k ∧
    qs.map (·.names) = (ps.take k).map (·.names) ∧ ∀ t q, qs[t]? = some q → CellsAt xs (t * 7) q ∧ Off w.heap.size wr q

/-- What zzCloneParts leaves. -/
def ClonedAll (w : World) (ps : List PartV) (e : Ending) (w' : World) : Prop :=
  ∃ a c qs, e = .returned (.slice a ps.length c) ∧ qs.map (·.names) = ps.map (·.names) ∧ PRow w' a qs ∧ Below w.heap.size w w' ∧ ((a = none ∧ c = 0 ∧ ps = []) ∨ ∃ g, a = some ⟨g, 0, none⟩ ∧ c = ps.length ∧ w.heap.size ≤ g) ∧ ∀ (t : Nat) (q : PartV), qs[t]? = some q → ∀ x, q.na = some x → w.heap.size ≤ x.block

theorem pRow_of {B g n cap : Nat} {e : TypeId} {w : World} {xs : List Value} {qs : List PartV} (h : w.ownsRow B e 7 (.slice (some ⟨g, 0, none⟩) n cap) n xs) (hl : qs.length ≤ n) (hc : ∀ t q, qs[t]? = some q → CellsAt xs (t * 7) q ∧ q.Ok w) : PRow w (some ⟨g, 0, none⟩) qs := by
  rcases h.2 with ⟨h0, _⟩ | ⟨g', cap', cur, hv, hb, hg, h1, h2, h3, h4⟩
  · cases h0
  · cases hv
    refine fun j hj => ⟨g, 0, rfl, (Array.getElem?_eq_some_iff.1 hg).1, fun t q hq => ?_⟩
    obtain ⟨⟨a0, a1, a2, a3, a4, a5, a6⟩, hok⟩ := hc t q hq
    have ht : t < qs.length := (List.getElem?_eq_some_iff.1 hq).1
    refine ⟨⟨?_, ?_, ?_, ?_, ?_, ?_, ?_⟩, hok⟩ <;> rw [Nat.zero_add, h.cellAt _ (by omega)] <;> assumption
theorem orel_step {w wr w2 : World} {ps : List PartV} {k : Nat} {p q : PartV} (h : ORel w ps k wr) (hk : ps[k]? = some p) (hq : q.names = p.names) (hb : Below wr.heap.size wr w2) (hok : q.Ok w2) (hfr : ∀ x, q.na = some x → wr.heap.size ≤ x.block) : ORel w ps (k + 1) (put7 w2 w.heap.size (k * 7) q) := by
  obtain ⟨xs, qs, h1, h2, h3, h4, h5⟩ := h
  have hkl : k < ps.length := (List.getElem?_eq_some_iff.1 hk).1
  have hxl : xs.length = ps.length * 7 := h1.1
  have hlt := (h1.lt w.heap.size rfl).2
  refine ⟨over xs (k * 7) q, qs ++ [q], put7_own (own_below h1 hb), put7_below (below_trans h2 hb) (Nat.le_refl _), by simp [h3], ?_, fun t r ht => ?_⟩
  · rw [List.take_add_one, hk]; simp [h4, hq]
  · by_cases e : t < k
    · rw [List.getElem?_append_left (by omega)] at ht
      obtain ⟨g1, g2⟩ := h5 t r ht
      exact ⟨over_other g1 (.inl (by omega)), (g2.below hb).put7⟩
    · have htk : t = k := by
        have := (List.getElem?_eq_some_iff.1 ht).1
        simp at this; omega
      subst htk
      rw [List.getElem?_append_right (by omega), h3, Nat.sub_self] at ht
      simp at ht
      subst ht
      exact ⟨over_at (by omega), Off.put7 ⟨hok, fun x hx => by have := hfr x hx; omega⟩⟩

/-- A row of n empty parts. -/
theorem orel_start {w w1 : World} {ps : List PartV} {xs : List Value} (hown : w1.ownsRow w.heap.size 34 7 (.slice (some ⟨w.heap.size, 0, none⟩) ps.length ps.length) ps.length xs) (hgrow : w.grownBy w1 none) : ORel w ps 0 w1 :=
  ⟨xs, [], hown, (Below.refl _ _).grown hgrow (Nat.le_refl _) (fun k h => by cases h), rfl, by simp, fun t q h => by simp at h⟩
theorem orel_done {w wr : World} {ps : List PartV} (h : ORel w ps ps.length wr) : ClonedAll w ps (.returned (.slice (some ⟨w.heap.size, 0, none⟩) ps.length ps.length)) wr := by
  obtain ⟨xs, qs, h1, h2, h3, h4, h5⟩ := h
  rw [List.take_length] at h4
  exact ⟨_, _, qs, rfl, h4, pRow_of h1 (by omega) (fun t q hq => ⟨(h5 t q hq).1, (h5 t q hq).2.1⟩), h2, .inr ⟨_, rfl, rfl, Nat.le_refl _⟩, fun t q hq x hx => Nat.le_of_lt ((h5 t q hq).2.2 x hx)⟩
/-- The seven cells that are there, before a store. -/
theorem seven_of {w : World} {B g n cap k : Nat} {e : TypeId} {xs : List Value} (h : w.ownsRow B e 7 (.slice (some ⟨g, 0, none⟩) n cap) n xs) (hk : k < n) :
    (∃ v, w.cell? ⟨g, k * 7, none⟩ = some v) ∧ (∃ v, w.cell? ⟨g, k * 7 + 1, none⟩ = some v) ∧ (∃ v, w.cell? ⟨g, k * 7 + 2, none⟩ = some v) ∧ (∃ v, w.cell? ⟨g, k * 7 + 3, none⟩ = some v) ∧ (∃ v, w.cell? ⟨g, k * 7 + 4, none⟩ = some v) ∧ (∃ v, w.cell? ⟨g, k * 7 + 5, none⟩ = some v) ∧ (∃ v, w.cell? ⟨g, k * 7 + 6, none⟩ = some v) ∧ ∀ j, w.frozen? ⟨g, j, none⟩ = false := by
  have hl : xs.length = n * 7 := h.1
  have hc : ∀ i, i < 7 → ∃ v, w.cell? ⟨g, k * 7 + i, none⟩ = some v := fun i hi => by
    rw [h.cellAt (k * 7 + i) (by omega)]
    exact ⟨_, List.getElem?_eq_getElem (by omega)⟩
  exact ⟨hc 0 (by omega), hc 1 (by omega), hc 2 (by omega), hc 3 (by omega), hc 4 (by omega), hc 5 (by omega), hc 6 (by omega), h.frozenAt⟩

set_option maxHeartbeats 4000000 in
set_option maxRecDepth 100000 in
theorem cloneParts_any (a : Option Addr) (c : Nat) (ps : List PartV) (w : World) (hp : PRow w a ps) (hn : ps.length ≤ 65536) (hnm : ∀ (t : Nat) (p : PartV), ps[t]? = some p → p.names.length ≤ 1048576) (hnil : a = none → ps.length = 0) :
    Calls Try.prog 8 #[.slice a ps.length c] w (ClonedAll w ps) := by
  obtain ⟨i0, hi, hz0, hz1, hz2⟩ := info_parts Try.info34
  have hq := fun (w : World) (n c : Nat) => Lib.run_eql_slice_nil (P := Try.prog) w 22 34 a n c 0 0 Try.underlying22
  cases a with
  | none =>
    have h0 : ps = [] := List.length_eq_zero_iff.1 (hnil rfl)
    subst h0
    go_enter Try.func8, Try.ntmps8
    go_wp2
    go_ret
    exact ⟨none, 0, [], rfl, rfl, fun j hj => absurd hj (by simp), below_refl _, .inl ⟨rfl, rfl, rfl⟩, fun t q h => by simp at h⟩
  | some x =>
    clear hnil
    have HN : Hid (∀ (t : Nat) (p : PartV), ps[t]? = some p → p.names.length ≤ 1048576) := hnm
    clear hnm
    go_enter Try.func8, Try.ntmps8
    go_wp2_with (at_make; go_must (refine wpList_make_full _ rfl _ _ 22 rfl w.heap.size 34 i0 (.agg cellsZ) 7 Try.underlying22 hi hz0 hz1 .i64 .i64 _ _ ps.length rfl rfl rfl rfl (by rw [hz2]; omega) (by unfold maxLen; omega) (Nat.le_refl _) ?_); intro w1 hown hgrow)
    have hst : ORel w ps 0 w1 := orel_start hown hgrow
    clear hown hgrow hq
    go_loopw [4] (fun i wr => ∃ k : Nat, k ≤ ps.length ∧ i = .int .i64 k ∧ ORel w ps k wr) (fun i _ => ps.length - (intOf i).toNat)
    case atStart => exact ⟨0, Nat.zero_le _, rfl, hst⟩
    case round =>
      clear hst
      obtain ⟨k, hk, rfl, hR⟩ := hrel
      by_cases hlt : k < ps.length
      · have hR' := hR
        obtain ⟨xs, qs, hown, hnx, _, _, _⟩ := hR'
        obtain ⟨b, off, hx, hb, hc⟩ := hp k hlt
        cases hx
        obtain ⟨p, hpk⟩ : ∃ p, ps[k]? = some p := ⟨_, List.getElem?_eq_getElem hlt⟩
        obtain ⟨hat, hok⟩ := hc k p hpk
        have hok' := hok.below hnx
        obtain ⟨c0, c1, c2, c3, c4, c5, c6⟩ := hat.below hnx hb
        have hnl := HN.out k p hpk
        have HPK : Hid (ps[k]? = some p) := hpk
        have hcl := clonePart_any p wr hok' hnl
        have HCL : Hid (Calls Try.prog 16 #[p.val] wr (Cloned wr p)) := hcl
        obtain ⟨l, f, s, nm, ie, rs, na, nc, names⟩ := p
        simp only at c0 c1 c2 c3 c4 c5 c6
        clear hc hp hat hok hpk hcl hnl hok'
        go_wp2_with fail
        refine Calls.mono HCL.out ?_
        rintro e w2 ⟨na2, nc2, rfl, hok2, hb2, hfr2⟩
        obtain ⟨⟨v0, e0⟩, ⟨v1, e1⟩, ⟨v2, e2⟩, ⟨v3, e3⟩, ⟨v4, e4⟩, ⟨v5, e5⟩, ⟨v6, e6⟩, efz⟩ := seven_of (own_below hown hb2) hlt
        clear HCL hown
        have R : Hid (ORel w ps (k + 1) (put7 w2 w.heap.size (k * 7) ⟨l, f, s, nm, ie, rs, na2, nc2, names⟩)) := orel_step (p := ⟨l, f, s, nm, ie, rs, na, nc, names⟩) (q := ⟨l, f, s, nm, ie, rs, na2, nc2, names⟩) hR HPK.out rfl hb2 hok2 hfr2
        clear HPK hR hok2 hfr2
        go_wp2_with fail
        go_roundw
        case rel => exact ⟨k + 1, by omega, by go_num, R.out⟩
        case measure => simp [intOf]; omega
      · obtain rfl : k = ps.length := by omega
        go_wp2_with fail
        go_ret
        exact orel_done hR
end Go.Proofs.Qxb6628592a
