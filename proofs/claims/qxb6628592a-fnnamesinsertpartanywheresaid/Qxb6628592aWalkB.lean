import Derived.Test.Qxb6628592aWords
namespace Go.Proofs.Qxb6628592a
open Go.RowKit

theorem Try.info9 : (Try.prog.info? 9).map (fun i => (i.zero, i.size, i.bytes)) = some (some (.string ByteArray.empty), 1, 16) := by kernel_rfl

/-- What zzClonePart leaves. -/
def Cloned (w : World) (p : PartV) (e : Ending) (w' : World) : Prop :=
  ∃ na nc, e = .returned (PartV.val { p with na := na, nc := nc }) ∧ PartV.Ok w' { p with na := na, nc := nc } ∧ Below w.heap.size w w' ∧ ∀ x, na = some x → w.heap.size ≤ x.block

/-- The names copied so far. -/
def CRel (B : Nat) (W : World) (g n : Nat) (names : List S) (k : Nat) (wr : World) : Prop :=
  ∃ xs : List S, wr.ownsRow B 9 1 (.slice (some ⟨g, 0, none⟩) n n) n (xs.map enc) ∧ Below B W wr ∧ xs.length = n ∧ ∀ t, t < k → xs.getD t [] = names.getD t []

/-- The cells of a part; of an empty one. -/
def cellsP (l f s : ByteArray) (nm : Bool) (ie : ByteArray) (rs : Bool) (v : Value) : Array Value := #[.string l, .string f, .string s, .bool nm, .string ie, .bool rs, v]
def cellsZ : Array Value := #[.string ⟨#[]⟩, .string ⟨#[]⟩, .string ⟨#[]⟩, .bool false, .string ⟨#[]⟩, .bool false, .slice none 0 0]

/-- Three boxes laid one behind the other: what a later world keeps of them. -/
theorem boxes {w W3 wr : World} {P0 P1 P2 : Array Value} (hW : W3 = ((w.alloc (.cells P0 34)).alloc (.cells P1 34)).alloc (.cells P2 34)) (h : Below (w.heap.size + 3) W3 wr) :
    (∀ j, wr.cell? ⟨w.heap.size, j, none⟩ = P0[j]?) ∧ (∀ j, wr.cell? ⟨w.heap.size + 1, j, none⟩ = P1[j]?) ∧ (∀ j, wr.cell? ⟨w.heap.size + 1 + 1, j, none⟩ = P2[j]?) ∧
    (∀ j, wr.frozen? ⟨w.heap.size + 1, j, none⟩ = false) ∧ (∀ j, wr.frozen? ⟨w.heap.size + 1 + 1, j, none⟩ = false) ∧ Below w.heap.size w wr ∧ w.heap.size + 3 ≤ wr.heap.size := by
  subst hW
  refine ⟨fun j => ?_, fun j => ?_, fun j => ?_, fun j => ?_, fun j => ?_, ?_, ?_⟩
  · rw [h.cell (p := ⟨w.heap.size, j, none⟩) (by show w.heap.size < w.heap.size + 3; omega)]
    rw [World.cell?_alloc_past _ _ _ (by simp; omega), World.cell?_alloc_past _ _ _ (by simp)]; simp
  · rw [h.cell (p := ⟨w.heap.size + 1, j, none⟩) (by show w.heap.size + 1 < w.heap.size + 3; omega)]
    rw [World.cell?_alloc_past _ _ _ (by simp), World.cell?_alloc_at _ _ _ _ (by simp)]
  · rw [h.cell (p := ⟨w.heap.size + 1 + 1, j, none⟩) (by show w.heap.size + 1 + 1 < w.heap.size + 3; omega)]
    rw [World.cell?_alloc_at _ _ _ _ (by simp)]
  · rw [h.frozen (p := ⟨w.heap.size + 1, j, none⟩) (by show w.heap.size + 1 < w.heap.size + 3; omega)]
    rw [World.frozen?_alloc_past _ _ _ (by simp)]; simp
  · rw [h.frozen (p := ⟨w.heap.size + 1 + 1, j, none⟩) (by show w.heap.size + 1 + 1 < w.heap.size + 3; omega)]
    rw [World.frozen?_alloc_at _ _ _ _ (by simp)]
  · exact (((below_alloc w _).alloc (by simp) _).alloc (by simp; omega) _).trans (h.mono (by omega))
  · have := h.size
    simp at this
    omega

theorem own_set {B b : Nat} {wr : World} {v : Value} {n : Nat} {xs : List Value} (h : wr.ownsRow B 9 1 v n xs) (hb : b < B) (j : Nat) (u : Value) : (wr.setCell ⟨b, j, none⟩ u).ownsRow B 9 1 v n xs := ownsRow_setCell_below h hb u
theorem below_set {w wr : World} {b : Nat} (h : Below w.heap.size w wr) (hb : w.heap.size ≤ b) (j : Nat) (u : Value) : Below w.heap.size w (wr.setCell ⟨b, j, none⟩ u) := h.setCell hb _
theorem row_owned {B g cap : Nat} {w : World} {ss : List S} (h : w.ownsRow B 9 1 (.slice (some ⟨g, 0, none⟩) ss.length cap) ss.length (ss.map enc)) : StrRow w (some ⟨g, 0, none⟩) ss := by
  rcases h.2 with ⟨h0, _⟩ | ⟨g', cap', cur, hv, hb, hg, h1, h2, h3, h4⟩
  · cases h0
  · cases hv
    refine fun j hj => ⟨g, 0, rfl, (Array.getElem?_eq_some_iff.1 hg).1, fun t ht => ?_⟩
    rw [Nat.zero_add, h.cellAt t (by simpa using ht)]
    simp [ht]
theorem crel_start {B g n : Nat} {W w1 : World} {names : List S} (hown : w1.ownsRow B 9 1 (.slice (some ⟨g, 0, none⟩) n n) n (madeCells (Value.string ByteArray.empty).cells (n * 1)).toList) (hgrow : W.grownBy w1 none) (hB : B ≤ W.heap.size) : CRel B W g n names 0 w1 := by
  refine ⟨List.replicate n [], ?_, (Below.refl _ _).grown hgrow hB (fun k h => by cases h), by simp, fun t h => absurd h (by omega)⟩
  have e : (madeCells (Value.string ByteArray.empty).cells (n * 1)).toList = (List.replicate n ([] : S)).map enc := by
    show (madeCells #[Value.string ByteArray.empty] _).toList = _
    rw [toList_madeCells_one]; simp; exact .inr rfl
  rw [← e]; exact hown
theorem crel_step {B g n k : Nat} {W wr : World} {names : List S} {x : S} (h : CRel B W g n names k wr) (hg : B ≤ g) (hk : k < n) (hx : names.getD k [] = x) : CRel B W g n names (k + 1) (wr.setCell ⟨g, k, none⟩ (enc x)) := by
  obtain ⟨xs, h1, h2, h3, h4⟩ := h
  refine ⟨xs.set k x, ?_, h2.setCell hg _, by simp [h3], fun t ht => ?_⟩
  · rw [List.map_set]; exact (h1.stored k (enc x)).1
  · by_cases e : t = k
    · subst e; rw [hx]; simp [List.getD_eq_getElem?_getD, h3, hk]
    · rw [List.getD_eq_getElem?_getD, List.getElem?_set_ne (by omega), ← List.getD_eq_getElem?_getD]; exact h4 t (by omega)
theorem crel_cell {B g n k : Nat} {W wr : World} {names : List S} (h : CRel B W g n names k wr) (hk : k < n) : (∃ y : S, wr.cell? ⟨g, k, none⟩ = some (enc y)) ∧ wr.frozen? ⟨g, k, none⟩ = false := by
  obtain ⟨xs, h1, h2, h3, h4⟩ := h
  have hc := h1.cellAt k (by simpa using hk)
  rw [List.getElem?_map, List.getElem?_eq_getElem (by omega)] at hc
  exact ⟨⟨_, hc⟩, h1.frozenAt k⟩
theorem crel_done {B g n : Nat} {W wr : World} {names : List S} (h : CRel B W g n names n wr) (hn : n = names.length) : wr.ownsRow B 9 1 (.slice (some ⟨g, 0, none⟩) n n) n (names.map enc) := by
  obtain ⟨xs, h1, h2, h3, h4⟩ := h
  have : xs = names := by
    apply List.ext_getElem (by omega)
    intro i a b
    have := h4 i (by omega)
    simpa [a, b] using this
  rw [← this]; exact h1

set_option maxHeartbeats 4000000 in
set_option maxRecDepth 100000 in
theorem clonePart_any (p : PartV) (w : World) (hp : p.Ok w) (hn : p.names.length ≤ 1048576) : Calls Try.prog 16 #[p.val] w (Cloned w p) := by
  obtain ⟨l, f, s, nm, ie, rs, na, nc, names⟩ := p
  simp only at hn
  obtain ⟨i0, hi, hz0, hz1, hz2⟩ := info_parts Try.info9
  have hq := fun (w : World) (n c : Nat) => run_neq_slice_nil_any (P := Try.prog) w 27 9 na n c 0 0 Try.underlying27
  cases na with
  | none =>
    go_enter Try.func16, Try.ntmps16
    go_wp2
    have hn0 := (hp.nil rfl).1
    have hc0 := (hp.nil rfl).2
    refine bodyPost_ret (v := PartV.val ⟨l, f, s, nm, ie, rs, none, nc, names⟩) (by simp [results, Try.results16, go_sem]) rfl ?_
    exact ⟨none, nc, rfl, hp.below (((below_alloc w _).alloc (by simp) _).alloc (by simp; omega) _), ((below_alloc w _).alloc (by simp) _).alloc (by simp; omega) _, fun x h => by cases h⟩
  | some x =>
    have hrow := hp.row
    simp only at hrow
    go_enter Try.func16, Try.ntmps16
    go_wp2_with (at_make; go_must (refine wpList_make_full _ rfl _ _ 27 rfl (w.heap.size + 3) 9 i0 (.string ByteArray.empty) 1 Try.underlying27 hi hz0 hz1 .i64 .i64 _ _ names.length rfl rfl rfl rfl (by rw [hz2]; omega) (by unfold maxLen; omega) (by simp) ?_); intro w1 hown hgrow)
    obtain ⟨W3, hW3⟩ : ∃ W3 : World, W3 = ((w.alloc (.cells (cellsP l f s nm ie rs (.slice (some x) names.length nc)) 34)).alloc (.cells cellsZ 34)).alloc (.cells (cellsP l f s nm ie rs (.slice (some x) names.length nc)) 34) := ⟨_, rfl⟩
    have hW3s : W3.heap.size = w.heap.size + 3 := by rw [hW3]; simp
    have hst : CRel (w.heap.size + 3) W3 (w.heap.size + 1 + 1 + 1) names.length names 0 w1 := crel_start (by simpa using hown) (by rw [hW3]; exact hgrow) (by omega)
    have HW3 : Hid (W3 = ((w.alloc (.cells (cellsP l f s nm ie rs (.slice (some x) names.length nc)) 34)).alloc (.cells cellsZ 34)).alloc (.cells (cellsP l f s nm ie rs (.slice (some x) names.length nc)) 34)) := hW3
    clear hown hgrow hW3 hW3s
    go_loopw [5] (fun i wr => ∃ k : Nat, k ≤ names.length ∧ i = .int .i64 k ∧ CRel (w.heap.size + 3) W3 (w.heap.size + 1 + 1 + 1) names.length names k wr) (fun i _ => names.length - (intOf i).toNat)
    case atStart => exact ⟨0, Nat.zero_le _, rfl, hst⟩
    case round =>
      clear hst
      obtain ⟨k, hk, rfl, hR⟩ := hrel
      have hR' := hR
      obtain ⟨xs, _, hnx, _, _⟩ := hR'
      obtain ⟨g0, g1, g2, g3, g4, hbel, hsz⟩ := boxes HW3.out hnx
      have q6 : wr.cell? ⟨w.heap.size, 6, none⟩ = some (.slice (some x) names.length nc) := g0 6
      by_cases hlt : k < names.length
      · obtain ⟨b, off, hx, hb, hc⟩ := hrow k hlt
        cases hx
        have h1 := (hbel.cell (p := ⟨b, off + k, none⟩) hb).trans (hc k hlt)
        obtain ⟨y, hy⟩ : ∃ y, names.getD k [] = y := ⟨_, rfl⟩
        rw [hy] at h1
        have HY : Hid (names.getD k [] = y) := hy
        obtain ⟨⟨y0, hcy⟩, hfy⟩ := crel_cell hR hlt
        clear hc hy g0 g1 g2 g3 g4 hnx hrow hp hq
        go_wp2_with fail
        go_roundw
        case rel => exact ⟨k + 1, by omega, by go_num, crel_step hR (by omega) hlt HY.out⟩
        case measure => simp [intOf]; omega
      · obtain rfl : k = names.length := by omega
        have hown := crel_done hR rfl
        have r0 : wr.cell? ⟨w.heap.size + 1, 0, none⟩ = some (.string ⟨#[]⟩) := g1 0
        have r1 : wr.cell? ⟨w.heap.size + 1, 1, none⟩ = some (.string ⟨#[]⟩) := g1 1
        have r2 : wr.cell? ⟨w.heap.size + 1, 2, none⟩ = some (.string ⟨#[]⟩) := g1 2
        have r3 : wr.cell? ⟨w.heap.size + 1, 3, none⟩ = some (.bool false) := g1 3
        have r4 : wr.cell? ⟨w.heap.size + 1, 4, none⟩ = some (.string ⟨#[]⟩) := g1 4
        have r5 : wr.cell? ⟨w.heap.size + 1, 5, none⟩ = some (.bool false) := g1 5
        have r6 : wr.cell? ⟨w.heap.size + 1, 6, none⟩ = some (.slice none 0 0) := g1 6
        have s0 : wr.cell? ⟨w.heap.size + 1 + 1, 0, none⟩ = some (.string l) := g2 0
        have s1 : wr.cell? ⟨w.heap.size + 1 + 1, 1, none⟩ = some (.string f) := g2 1
        have s2 : wr.cell? ⟨w.heap.size + 1 + 1, 2, none⟩ = some (.string s) := g2 2
        have s3 : wr.cell? ⟨w.heap.size + 1 + 1, 3, none⟩ = some (.bool nm) := g2 3
        have s4 : wr.cell? ⟨w.heap.size + 1 + 1, 4, none⟩ = some (.string ie) := g2 4
        have s5 : wr.cell? ⟨w.heap.size + 1 + 1, 5, none⟩ = some (.bool rs) := g2 5
        have s6 : wr.cell? ⟨w.heap.size + 1 + 1, 6, none⟩ = some (.slice (some x) names.length nc) := g2 6
        clear g0 g1 g2 hR hnx hrow hq
        go_wp2_with fail
        refine bodyPost_ret (v := PartV.val ⟨l, f, s, nm, ie, rs, some ⟨w.heap.size + 1 + 1 + 1, 0, none⟩, names.length, names⟩) (by simp [results, Try.results16, go_sem, r0, r1, r2, r3, r4, r5, r6]) rfl ?_
        have hfin := own_set (own_set (own_set (own_set (own_set (own_set (own_set (own_set hown (show w.heap.size + 1 + 1 < w.heap.size + 3 by omega) 6 (.slice (some ⟨w.heap.size + 1 + 1 + 1, 0, none⟩) names.length names.length)) (show w.heap.size + 1 < w.heap.size + 3 by omega) 0 (.string l)) (show w.heap.size + 1 < w.heap.size + 3 by omega) 1 (.string f)) (show w.heap.size + 1 < w.heap.size + 3 by omega) 2 (.string s)) (show w.heap.size + 1 < w.heap.size + 3 by omega) 3 (.bool nm)) (show w.heap.size + 1 < w.heap.size + 3 by omega) 4 (.string ie)) (show w.heap.size + 1 < w.heap.size + 3 by omega) 5 (.bool rs)) (show w.heap.size + 1 < w.heap.size + 3 by omega) 6 (.slice (some ⟨w.heap.size + 1 + 1 + 1, 0, none⟩) names.length names.length)
        refine ⟨_, _, rfl, ⟨row_owned hfin, Nat.le_refl _, (fun h => by cases h), hp.ln, hp.l1, hp.l2, hp.l3, hp.l4, hp.l5⟩, ?_, fun x h => by cases h; show w.heap.size ≤ w.heap.size + 1 + 1 + 1; omega⟩
        exact below_set (below_set (below_set (below_set (below_set (below_set (below_set (below_set hbel (by omega) _ _) (by omega) _ _) (by omega) _ _) (by omega) _ _) (by omega) _ _) (by omega) _ _) (by omega) _ _) (by omega) _ _
end Go.Proofs.Qxb6628592a
