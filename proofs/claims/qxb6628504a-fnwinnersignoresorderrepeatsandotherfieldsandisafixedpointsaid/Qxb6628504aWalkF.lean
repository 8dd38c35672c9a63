import Derived.Test.Qxb6628504aAwards
namespace Go.Proofs.Qxb6628504a
open Go.RowKit

/-- What zzBuild leaves: a result whose awards name the banks from l up to h. -/
def Built (w : World) (ss : List S) (e : Ending) (w' : World) : Prop :=
  ∃ c0 c1 c2 c3 c4 c5 c6 c7 c8 c10 a c, e = .returned (.agg #[c0, c1, c2, c3, c4, c5, c6, c7, c8, .slice a ss.length c, c10]) ∧ AwRow w' a ss ∧ Below w.heap.size w w'

theorem mid_snoc {ss : List S} {l k : Nat} (h1 : l ≤ k) (h2 : k < ss.length) : (ss.take (k + 1)).drop l = (ss.take k).drop l ++ [ss.getD k []] := by
  rw [take_snoc h2, List.drop_append_of_le_length (by simp; omega)]
theorem mid_len {ss : List S} {l k : Nat} (h2 : k ≤ ss.length) : ((ss.take k).drop l).length = k - l := by simp; omega

theorem AwOwn.set {B : Nat} {wr : World} {v : Value} {ss : List S} (h : AwOwn (B + 1) wr v ss) (j : Nat) (u : Value) : AwOwn (B + 1) (wr.setCell ⟨B, j, none⟩ u) v ss := by
  obtain ⟨cs, h1, h2⟩ := h
  exact ⟨cs, ownsRow_setCell_below h1 (Nat.lt_succ_self _) _, h2⟩
theorem aw_fin {B : Nat} {wr : World} {a : Option Addr} {c : Nat} {ss : List S} (h : AwOwn B wr (.slice a ss.length c) ss) : AwRow wr a ss := by
  obtain ⟨a', c', he, hr⟩ := h.row
  cases he
  exact hr
theorem below_set {w wr : World} (h : Below w.heap.size w wr) (j : Nat) (u : Value) : Below w.heap.size w (wr.setCell ⟨w.heap.size, j, none⟩ u) := h.setCell (Nat.le_refl _) _

/-- The result's cells, as they are made. -/
def Z37 : Array Value := #[.string ByteArray.empty, .int .i64 0, .int .i64 0, .int .u8 0, .int .i64 0, .int .u64 0, .int .u64 0, .int .i64 0, .int .i64 0, .slice none 0 0, .slice none 0 0]
theorem z37_below {w W0 wr : World} (h0 : W0 = w.alloc (.cells Z37 37)) (h : Below (w.heap.size + 1) W0 wr) : Below w.heap.size w wr := by
  subst h0
  exact ((Below.refl _ _).alloc (Nat.le_refl _) _).trans (h.mono (Nat.le_succ _))
theorem z37_size {w W0 wr : World} (h0 : W0 = w.alloc (.cells Z37 37)) (h : Below (w.heap.size + 1) W0 wr) : w.heap.size + 1 ≤ wr.heap.size := by
  subst h0
  have := h.size
  simpa using this
theorem z37_cells {w W0 wr : World} (h0 : W0 = w.alloc (.cells Z37 37)) (h : Below (w.heap.size + 1) W0 wr) :
    wr.cell? ⟨w.heap.size, 0, none⟩ = some (.string ByteArray.empty) ∧ wr.cell? ⟨w.heap.size, 1, none⟩ = some (.int .i64 0) ∧ wr.cell? ⟨w.heap.size, 2, none⟩ = some (.int .i64 0) ∧ wr.cell? ⟨w.heap.size, 3, none⟩ = some (.int .u8 0) ∧ wr.cell? ⟨w.heap.size, 4, none⟩ = some (.int .i64 0) ∧
    wr.cell? ⟨w.heap.size, 5, none⟩ = some (.int .u64 0) ∧ wr.cell? ⟨w.heap.size, 6, none⟩ = some (.int .u64 0) ∧ wr.cell? ⟨w.heap.size, 7, none⟩ = some (.int .i64 0) ∧ wr.cell? ⟨w.heap.size, 8, none⟩ = some (.int .i64 0) ∧ wr.cell? ⟨w.heap.size, 9, none⟩ = some (.slice none 0 0) ∧ wr.cell? ⟨w.heap.size, 10, none⟩ = some (.slice none 0 0) ∧
    ∀ j, wr.frozen? ⟨w.heap.size, j, none⟩ = false := by
  subst h0
  have hc : ∀ j, wr.cell? ⟨w.heap.size, j, none⟩ = Z37[j]? := fun j => by
    rw [h.cell (p := ⟨w.heap.size, j, none⟩) (Nat.lt_succ_self _)]; simp
  refine ⟨hc 0, hc 1, hc 2, hc 3, hc 4, hc 5, hc 6, hc 7, hc 8, hc 9, hc 10, fun j => ?_⟩
  rw [h.frozen (p := ⟨w.heap.size, j, none⟩) (Nat.lt_succ_self _)]; simp

set_option maxHeartbeats 2000000 in
set_option maxRecDepth 100000 in
theorem build_any (tid : ByteArray) (m x1 x2 x3 lo hi : Int) (l h : Nat) (a a1 a2 : Option Addr) (ss : List S) (c n1 c1 n2 c2 : Nat) (w : World) (hn : ss.length ≤ 65536) (hn1 : n1 ≤ maxLen) (hn2 : n2 ≤ maxLen)
    (hs : StrRow w a ss) (hs1 : IntRow w a1 n1) (hs2 : IntRow w a2 n2) (hlo : lo = l) (hhi : hi = h) (hlh : l ≤ h) (hh : h ≤ ss.length) (T : List S) (hT : T = (ss.take h).drop l) :
    Calls Try.prog 7 #[.string tid, .int .i64 m, .int .i64 x1, .int .i64 x2, .int .i64 x3, .slice a ss.length c, .slice a1 n1 c1, .slice a2 n2 c2, .int .i64 lo, .int .i64 hi] w (Built w T) := by
  unfold maxLen at hn1 hn2
  have HT : Hid (T = (ss.take h).drop l) := hT
  clear hT
  subst hlo hhi
  go_enter Try.func7, Try.ntmps7
  go_wp2_with (at_make; go_must (refine wpList_makeAw (B := w.heap.size + 1) (n := h - l) rfl _ _ rfl rfl rfl (by omega) (by omega) (by simp) ?_); intro v1 w1 hown hb1)
  obtain ⟨W0, hW0⟩ : ∃ W0 : World, W0 = w.alloc (.cells Z37 37) := ⟨_, rfl⟩
  have hbW : Hid (Below (w.heap.size + 1) W0 w1) := by rw [hW0]; exact hb1
  have HW0 : Hid (W0 = w.alloc (.cells Z37 37)) := hW0
  clear hb1 hW0
  go_loopw [21, 22] (fun v i wr => ∃ k : Nat, l ≤ k ∧ k ≤ h ∧ i = .int .i64 k ∧ AwOwn (w.heap.size + 1) wr v ((ss.take k).drop l) ∧ Hid (Below (w.heap.size + 1) W0 wr)) (fun _ i _ => h - (intOf i).toNat)
  case atStart => exact ⟨l, Nat.le_refl _, hlh, rfl, by rw [show (ss.take l).drop l = [] by simp]; exact hown, hbW⟩
  case round =>
    clear hown hbW
    obtain ⟨k, hlk, hkh, rfl, hown, hnx⟩ := hrel
    have hbel := z37_below HW0.out hnx.out
    by_cases hlt : k < h
    · have hks : k < ss.length := by omega
      obtain ⟨b, off, rfl, hb, hc⟩ := hs k hks
      have h1 := (hbel.cell (p := ⟨b, off + k, none⟩) hb).trans (hc k hks)
      obtain ⟨s, hse⟩ : ∃ s, ss.getD k [] = s := ⟨_, rfl⟩
      rw [hse] at h1
      have HS : Hid (ss.getD k [] = s) := hse
      have hln := mid_len (ss := ss) (l := l) (k := k) (by omega)
      have hln' : ((ss.take k).drop l).length ≤ 1048576 := by omega
      have hsz : w.heap.size + 1 ≤ wr.heap.size := z37_size HW0.out hnx.out
      clear hse hc hs hln
      by_cases hk1 : k < n1
      · obtain ⟨b1, off1, y1, rfl, hb1, hc1⟩ := hs1 k hk1
        have h2 := (hbel.cell (p := ⟨b1, off1 + k, none⟩) hb1).trans hc1
        clear hs1
        by_cases hk2 : k < n2
        · obtain ⟨b2, off2, y2, rfl, hb2, hc2⟩ := hs2 k hk2
          have h3 := (hbel.cell (p := ⟨b2, off2 + k, none⟩) hb2).trans hc2
          clear hs2 hbel
          go_wp2_with (at_builtin; go_must (refine wpList_pushAw (B := w.heap.size + 1) (ss := (ss.take k).drop l) rfl _ _ rfl rfl rfl (by rfl) (by exact hsz) hln' (by exact hown) ?_); intro v' w' hown' hb')
          go_roundw
          case rel => exact ⟨k + 1, by omega, by omega, by go_num, by rw [mid_snoc hlk hks, HS.out]; exact hown', hnx.out.trans hb'⟩
          case measure => simp [intOf]; omega
        · clear hs2 hbel
          go_wp2_with (at_builtin; go_must (refine wpList_pushAw (B := w.heap.size + 1) (ss := (ss.take k).drop l) rfl _ _ rfl rfl rfl (by rfl) (by exact hsz) hln' (by exact hown) ?_); intro v' w' hown' hb')
          go_roundw
          case rel => exact ⟨k + 1, by omega, by omega, by go_num, by rw [mid_snoc hlk hks, HS.out]; exact hown', hnx.out.trans hb'⟩
          case measure => simp [intOf]; omega
      · by_cases hk2 : k < n2
        · obtain ⟨b2, off2, y2, rfl, hb2, hc2⟩ := hs2 k hk2
          have h3 := (hbel.cell (p := ⟨b2, off2 + k, none⟩) hb2).trans hc2
          clear hs1 hs2 hbel
          go_wp2_with (at_builtin; go_must (refine wpList_pushAw (B := w.heap.size + 1) (ss := (ss.take k).drop l) rfl _ _ rfl rfl rfl (by rfl) (by exact hsz) hln' (by exact hown) ?_); intro v' w' hown' hb')
          go_roundw
          case rel => exact ⟨k + 1, by omega, by omega, by go_num, by rw [mid_snoc hlk hks, HS.out]; exact hown', hnx.out.trans hb'⟩
          case measure => simp [intOf]; omega
        · clear hs1 hs2 hbel
          go_wp2_with (at_builtin; go_must (refine wpList_pushAw (B := w.heap.size + 1) (ss := (ss.take k).drop l) rfl _ _ rfl rfl rfl (by rfl) (by exact hsz) hln' (by exact hown) ?_); intro v' w' hown' hb')
          go_roundw
          case rel => exact ⟨k + 1, by omega, by omega, by go_num, by rw [mid_snoc hlk hks, HS.out]; exact hown', hnx.out.trans hb'⟩
          case measure => simp [intOf]; omega
    · obtain rfl : k = h := by omega
      obtain ⟨q0, q1, q2, q3, q4, q5, q6, q7, q8, q9, q10, qf⟩ := z37_cells HW0.out hnx.out
      rw [← HT.out] at hown
      obtain ⟨aa, cc, hv, hrow⟩ := hown.row
      clear hlt hs hs1 hs2 hrow
      subst hv
      go_wp2_with fail
      refine bodyPost_ret (v := .agg #[.string tid, .int .i64 m, .int .i64 0, .int .u8 0, .int .i64 x1, .int .u64 0, .int .u64 0, .int .i64 x2, .int .i64 x3, .slice aa T.length cc, .slice none 0 0]) (by simp [results, Try.results7, go_sem, q0, q1, q2, q3, q4, q5, q6, q7, q8, q9, q10]) rfl ?_
      refine ⟨_, _, _, _, _, _, _, _, _, _, aa, cc, rfl, aw_fin (((((((((((hown.set _ _).set _ _).set _ _).set _ _).set _ _).set _ _).set _ _).set _ _).set _ _).set _ _).set _ _), ?_⟩
      exact below_set (below_set (below_set (below_set (below_set (below_set (below_set (below_set (below_set (below_set (below_set hbel _ _) _ _) _ _) _ _) _ _) _ _) _ _) _ _) _ _) _ _) _ _
end Go.Proofs.Qxb6628504a
