import Derived.Test.Qxb6628504aAwards
import Derived.Test.Qxb6628504aWin
import Derived.Test.Qxb6628504aShelf
import Derived.Sort.OwnSorted
import Derived.Sort.Grow
import Derived.Lib.OwnBridge
namespace Go.Proofs.Qxb6628504a
open Go.RowKit Go.Sort

/-- What Winners leaves. -/
def Won (w : World) (ss : List S) (e : Ending) (w' : World) : Prop :=
  ∃ ws v, e = .returned v ∧ w'.ownsRow w.heap.size 9 1 v ws.length (ws.map enc) ∧ Below w.heap.size w w' ∧ Win ss ws

/-- What has been gathered of the first k. -/
def GRel (w : World) (ss : List S) (v : Value) (k : Nat) (wr : World) : Prop :=
  wr.ownsRow w.heap.size 9 1 v (ss.take k).length ((ss.take k).map enc) ∧ Below w.heap.size w wr

theorem won_nil {w wr : World} {ss : List S} (hown : wr.ownsRow w.heap.size 9 1 (.slice none 0 0) ss.length (ss.map enc)) (hnx : Below w.heap.size w wr) (he : ss = []) : Won w ss (.returned (.slice none 0 0)) wr := by
  subst he
  exact ⟨[], _, rfl, hown, hnx, ⟨List.Pairwise.nil, by simp, by simp⟩⟩

/-- THE END, outside the walk. -/
theorem won_of {w w1 : World} {g cap nn q : Nat} {os : Array Obj} {ss : List S} (hown : w1.ownsRow w.heap.size 9 1 (.slice (some ⟨g, 0, none⟩) ss.length cap) ss.length (ss.map enc)) (hbel : Below w.heap.size w w1) (hbg : w.heap.size ≤ g) :
    Won w ss (.returned (.slice (some ⟨g, 0, none⟩) (Lib.compact (ss.mergeSort fun x y => decide (x ≤ y))).length cap))
      (putRow encStr (Sort.ahead (grow (putRow encStr (Sort.ahead w1 nn) g 0 (ss.mergeSort fun x y => decide (x ≤ y)).toArray) os) q) g 0 (Lib.compact (ss.mergeSort fun x y => decide (x ≤ y)) ++ List.replicate (ss.length - (Lib.compact (ss.mergeSort fun x y => decide (x ≤ y))).length) []).toArray) := by
  have hl2 : (ss.mergeSort fun x y => decide (x ≤ y)).length = ss.length := List.length_mergeSort ss
  have hle := Lib.compact_length_le (ss.mergeSort fun x y => decide (x ≤ y))
  rcases hown.2 with ⟨h0, _⟩ | ⟨g', cap', cur, hv, hbase, hb, h1, h2, h3, h4⟩
  · cases h0
  cases hv
  have hs := ownsRow_sorted (n := nn) (os := os) (ts := ss.mergeSort fun x y => decide (x ≤ y)) hl2 hbase hb h1 h2 h3
  have hc := Lib.ownsRow_putRow (q := q) (k := (Lib.compact (ss.mergeSort fun x y => decide (x ≤ y))).length) (ys := Lib.compact (ss.mergeSort fun x y => decide (x ≤ y)) ++ List.replicate (ss.length - (Lib.compact (ss.mergeSort fun x y => decide (x ≤ y))).length) []) hs (by simp; omega) (by omega)
  rw [List.take_left] at hc
  exact ⟨_, _, rfl, hc, Lib.below_putRow (hbel.grown (grownBy_sorted _) hbel.size (fun j hj => by cases hj; exact hbase)) hbg, win_compact ss⟩

set_option maxHeartbeats 2000000 in
set_option maxRecDepth 100000 in
theorem winners_any (c0 c1 c2 c3 c4 c5 c6 c7 c8 c10 : Value) (a : Option Addr) (c : Nat) (ss : List S) (w : World) (hn : ss.length ≤ 1048576) (ha : AwRow w a ss) :
    Calls Try.prog 8 #[.agg #[c0, c1, c2, c3, c4, c5, c6, c7, c8, .slice a ss.length c, c10]] w (Won w ss) := by
  go_enter Try.func8, Try.ntmps8
  go_wp2
  go_loopw [3, 9] (fun v i wr => ∃ k : Nat, k ≤ ss.length ∧ i = .int .i64 k ∧ GRel w ss v k wr) (fun _ i _ => ss.length - (intOf i).toNat)
  case atStart => exact ⟨0, Nat.zero_le _, rfl, World.ownsRow_nil _ _ _ _, (Below.refl _ _).alloc (Nat.le_refl _) _⟩
  case round =>
    obtain ⟨k, hk, rfl, hown, hnx⟩ := hrel
    by_cases hlt : k < ss.length
    · obtain ⟨b, off, rfl, hb, hc⟩ := ha k hlt
      obtain ⟨x, y, h1, h2, h3⟩ := hc k hlt
      rw [← hnx.cell (p := ⟨_, _, none⟩) hb] at h1 h2 h3
      obtain ⟨s, hs⟩ : ∃ s, ss.getD k [] = s := ⟨_, rfl⟩
      rw [hs] at h1
      have HS : Hid (ss.getD k [] = s) := hs
      clear hs hc ha
      have hlk : (ss.take k).length ≤ 1048576 := by rw [List.length_take]; omega
      go_wp2_with (at_builtin; go_must (refine wpList_push (B := w.heap.size) (out := ss.take k) rfl _ _ rfl rfl rfl (by simp) (by have := hnx.size; simp; omega) hlk (hown.alloc _) ?_); intro v' w' hown' hb')
      go_roundw
      case rel => exact ⟨k + 1, by omega, by go_num, by rw [take_snoc hlt, HS.out]; exact hown', (hnx.alloc hnx.size _).trans hb'⟩
      case measure => simp [intOf]; omega
    · obtain rfl : k = ss.length := by omega
      rw [List.take_length] at hown
      by_cases hnn : u3 = .slice none 0 0
      · have he : ss = [] := by
          rcases hown.2 with ⟨_, h0⟩ | ⟨g, cap, cur, hv, _⟩
          · exact List.length_eq_zero_iff.1 h0
          · rw [hnn] at hv; cases hv
        clear hlt hk ha
        subst hnn
        have X : Hid (wr.ownsRow w.heap.size 9 1 (.slice none 0 0) ss.length (ss.map enc) ∧ Below w.heap.size w wr ∧ ss = []) := ⟨hown, hnx, he⟩
        clear hown hnx he
        go_wp2_with (first | (go_at_call 13; go_must (refine (Try.slices_Sort_string_none none 0 _).mono ?_); rintro e w' ⟨rfl, rfl⟩) | (go_at_call 14; go_must (refine (Try.slices_Compact_string_empty none 0 _).mono ?_); rintro e w' ⟨rfl, rfl⟩))
        go_ret
        exact won_nil X.out.1 X.out.2.1 X.out.2.2
      · obtain ⟨g, cap, hv, hbg, hgl, hncap, hcm, hlen, hH⟩ := Lib.holds_of_ownsRow hown hnn
        clear hlt hk ha hnn
        subst hv
        have hsort := Try.slices_Sort_string g 0 cap ss wr hH hgl (by omega)
        have X : Hid (wr.ownsRow w.heap.size 9 1 (.slice (some ⟨g, 0, none⟩) ss.length cap) ss.length (ss.map enc) ∧ Below w.heap.size w wr ∧ w.heap.size ≤ g ∧ g < wr.heap.size ∧ ss.length ≤ cap ∧ Holds encStr wr g 0 ss.toArray) := ⟨hown, hnx, hbg, hgl, hncap, hH⟩
        have HS : Hid (Calls Try.prog 13 #[.slice (some ⟨g, 0, none⟩) ss.length cap] wr fun e w' => e = .returned (.tuple #[]) ∧ ∃ n os, w' = grow (putRow encStr (Sort.ahead wr n) g 0 (ss.mergeSort fun x y => decide (x ≤ y)).toArray) os) := hsort
        clear hown hnx hH hsort
        go_wp2_with fail
        refine Calls.mono HS.out ?_
        rintro e w2 ⟨rfl, nn, os, rfl⟩
        have hH2 : Holds encStr (grow (putRow encStr (Sort.ahead wr nn) g 0 (ss.mergeSort fun x y => decide (x ≤ y)).toArray) os) g 0 (ss.mergeSort fun x y => decide (x ≤ y)).toArray :=
          holds_grow encStr _ os g 0 _ (by simpa [putRow, mapBlock, Sort.ahead] using X.out.2.2.2.1) (holds_putRow encStr _ g 0 _ _ (holds_ahead encStr wr nn g 0 _ X.out.2.2.2.2.2) (by simp))
        have hl2 : (ss.mergeSort fun x y => decide (x ≤ y)).length = ss.length := List.length_mergeSort ss
        have hcomp := Try.slices_Compact_string g 0 cap (ss.mergeSort fun x y => decide (x ≤ y)) _ hH2 (by omega) (by have := X.out.2.2.2.2.1; omega)
        rw [hl2] at hcomp
        have HC : Hid (Calls Try.prog 14 #[.slice (some ⟨g, 0, none⟩) ss.length cap] (grow (putRow encStr (Sort.ahead wr nn) g 0 (ss.mergeSort fun x y => decide (x ≤ y)).toArray) os) fun e w' => e = .returned (.slice (some ⟨g, 0, none⟩) (Lib.compact (ss.mergeSort fun x y => decide (x ≤ y))).length cap) ∧ ∃ q, w' = putRow encStr (Sort.ahead (grow (putRow encStr (Sort.ahead wr nn) g 0 (ss.mergeSort fun x y => decide (x ≤ y)).toArray) os) q) g 0 (Lib.compact (ss.mergeSort fun x y => decide (x ≤ y)) ++ List.replicate (ss.length - (Lib.compact (ss.mergeSort fun x y => decide (x ≤ y))).length) []).toArray) := hcomp
        clear hH2 hl2 hcomp HS
        go_wp2_with fail
        refine Calls.mono HC.out ?_
        rintro e w3 ⟨rfl, q, rfl⟩
        go_wp2_with fail
        go_ret
        exact won_of X.out.1 X.out.2.1 X.out.2.2.1
end Go.Proofs.Qxb6628504a
