import Derived.Test.Qxb6628592aWords
namespace Go.Proofs.Qxb6628592a
open Go.RowKit

/-- zzAdd. -/
def Added (w : World) (m : Int) (e : Ending) (w' : World) : Prop := ∃ r : Int, e = .returned (.int .i64 r) ∧ w' = w ∧ 0 ≤ r ∧ r ≤ 1048577 ∧ (r ≤ 1048576 → m ≤ r)

set_option maxHeartbeats 2000000 in
set_option maxRecDepth 100000 in
theorem add_any (acc n : Int) (w : World) (h0 : 0 ≤ acc) (h1 : acc ≤ 1048576) (h2 : 0 ≤ n) (h3 : n ≤ 9223372036854775807) :
    Calls Try.prog 19 #[.int .i64 acc, .int .i64 n] w (Added w (acc + n)) := by
  by_cases h : 1048576 - acc < n
  · go_enter Try.func19, Try.ntmps19
    go_wp2
    go_ret
    exact ⟨1048577, rfl, rfl, by omega, by omega, fun h => by omega⟩
  · go_enter Try.func19, Try.ntmps19
    go_wp2
    go_ret
    exact ⟨acc + n, rfl, rfl, by omega, by omega, fun h => by omega⟩

set_option maxHeartbeats 4000000 in
set_option maxRecDepth 100000 in
theorem partBytes_any (acc : Int) (p : PartV) (w : World) (h0 : 0 ≤ acc) (h1 : acc ≤ 1048576) (hp : p.Ok w) :
    Calls Try.prog 14 #[.int .i64 acc, p.val] w (Counts w (acc + 64 + 16 * p.names.length)) := by
  obtain ⟨l, f, s, nm, ie, rs, na, nc, names⟩ := p
  have b1 := hp.l1
  have b2 := hp.l2
  have b3 := hp.l3
  have b4 := hp.l4
  have bn := hp.ln
  have hrow := hp.row
  have hl5 := hp.l5
  simp only at b1 b2 b3 b4 bn hrow hl5
  unfold maxLen at b1 b2 b3 b4 bn
  clear hp
  go_enter Try.func14, Try.ntmps14
  go_wp2_with fail
  refine (add_any acc 64 _ h0 h1 (by omega) (by omega)).mono ?_
  rintro e w1 ⟨r1, rfl, rfl, a1, a2, a3⟩
  by_cases t1 : 1048576 < r1
  · go_wp2_with fail
    go_ret
    exact counts r1 (below_alloc _ _) (by omega) (by omega) (by omega)
  go_wp2_with fail
  refine (add_any r1 _ _ (by omega) (by omega) (by omega) (by omega)).mono ?_
  rintro e w1 ⟨r2, rfl, rfl, a4, a5, a6⟩
  by_cases t2 : 1048576 < r2
  · go_wp2_with fail
    go_ret
    exact counts r2 (below_alloc _ _) (by omega) (by omega) (by omega)
  go_wp2_with fail
  refine (add_any r2 _ _ (by omega) (by omega) (by omega) (by omega)).mono ?_
  rintro e w1 ⟨r3, rfl, rfl, a7, a8, a9⟩
  by_cases t3 : 1048576 < r3
  · go_wp2_with fail
    go_ret
    exact counts r3 (below_alloc _ _) (by omega) (by omega) (by omega)
  go_wp2_with fail
  refine (add_any r3 _ _ (by omega) (by omega) (by omega) (by omega)).mono ?_
  rintro e w1 ⟨r4, rfl, rfl, a10, a11, a12⟩
  by_cases t4 : 1048576 < r4
  · go_wp2_with fail
    go_ret
    exact counts r4 (below_alloc _ _) (by omega) (by omega) (by omega)
  go_wp2_with fail
  refine (add_any r4 _ _ (by omega) (by omega) (by omega) (by omega)).mono ?_
  rintro e w1 ⟨r5, rfl, rfl, a13, a14, a15⟩
  by_cases t5 : 1048576 < r5
  · go_wp2_with fail
    go_ret
    exact counts r5 (below_alloc _ _) (by omega) (by omega) (by omega)
  have hr5 : acc + 64 ≤ r5 := by omega
  clear a1 a2 a3 a4 a5 a6 a7 a8 a9 a10 a11 a12 t1 t2 t3 t4
  go_wp2_with fail
  go_loop [0, 5] (fun t i => ∃ (k : Nat) (r : Int), k ≤ names.length ∧ i = .int .i64 k ∧ t = .int .i64 r ∧ 0 ≤ r ∧ r ≤ 1048576 ∧ acc + 64 + 16 * k ≤ r) (fun _ i => names.length - (intOf i).toNat)
  case atStart => exact ⟨0, r5, Nat.zero_le _, rfl, rfl, by omega, by omega, by omega⟩
  case round =>
    clear a13 a14 a15 t5 hr5
    obtain ⟨k, r, hk, rfl, rfl, q1, q2, q3⟩ := hrel
    by_cases hlt : k < names.length
    · obtain ⟨b, off, rfl, hb, hc⟩ := hrow k hlt
      have hck := hc k hlt
      have hlk := hl5 k hlt
      unfold maxLen at hlk
      obtain ⟨x, hx⟩ : ∃ x, names.getD k [] = x := ⟨_, rfl⟩
      rw [hx] at hck hlk
      clear hc hrow hl5 hx
      go_wp2_with fail
      refine (add_any r 16 _ (by omega) (by omega) (by omega) (by omega)).mono ?_
      rintro e w1 ⟨r6, rfl, rfl, a1, a2, a3⟩
      by_cases t1 : 1048576 < r6
      · go_wp2_with fail
        go_ret
        exact counts r6 (below_alloc _ _) (by omega) (by omega) (by omega)
      go_wp2_with fail
      refine (add_any r6 _ _ (by omega) (by omega) (by omega) (by omega)).mono ?_
      rintro e w1 ⟨r7, rfl, rfl, a4, a5, a6⟩
      by_cases t2 : 1048576 < r7
      · go_wp2_with fail
        go_ret
        exact counts r7 (below_alloc _ _) (by omega) (by omega) (by omega)
      go_wp2_with fail
      go_round
      case rel => exact ⟨k + 1, r7, by omega, by go_num, rfl, by omega, by omega, by omega⟩
      case measure => simp [intOf]; omega
    · go_wp2_with fail
      go_ret
      exact counts r (below_alloc _ _) (by omega) (by omega) (by omega)

theorem wt_snoc {ps : List PartV} {k : Nat} {p : PartV} (h : ps[k]? = some p) : wt (ps.take (k + 1)) = wt (ps.take k) + (64 + 16 * p.names.length) := by
  unfold wt
  rw [List.take_add_one, h]
  simp

set_option maxHeartbeats 4000000 in
set_option maxRecDepth 100000 in
theorem partsBytes_any (acc : Int) (a : Option Addr) (c : Nat) (ps : List PartV) (w : World) (h0 : 0 ≤ acc) (h1 : acc ≤ 1048576) (hn : ps.length ≤ maxLen) (hp : PRow w a ps) :
    Calls Try.prog 6 #[.int .i64 acc, .slice a ps.length c] w (Counts w (acc + wt ps)) := by
  unfold maxLen at hn
  go_enter Try.func6, Try.ntmps6
  go_wp2_with fail
  go_loopw [0, 5] (fun t i wr => ∃ (k : Nat) (r : Int), k ≤ ps.length ∧ i = .int .i64 k ∧ t = .int .i64 r ∧ 0 ≤ r ∧ r ≤ 1048576 ∧ acc + wt (ps.take k) ≤ r ∧ Below w.heap.size w wr) (fun _ i _ => ps.length - (intOf i).toNat)
  case atStart => exact ⟨0, acc, Nat.zero_le _, rfl, rfl, by omega, by omega, by simp [wt], below_refl _⟩
  case round =>
    obtain ⟨k, r, hk, rfl, rfl, q1, q2, q3, hnx⟩ := hrel
    by_cases hlt : k < ps.length
    · obtain ⟨b, off, rfl, hb, hc⟩ := hp k hlt
      obtain ⟨p, hpk⟩ : ∃ p, ps[k]? = some p := ⟨_, List.getElem?_eq_getElem hlt⟩
      obtain ⟨hat, hok⟩ := hc k p hpk
      have hok' := hok.below hnx
      obtain ⟨c0, c1, c2, c3, c4, c5, c6⟩ := hat.below hnx hb
      have hw := wt_snoc hpk
      have HW : Hid (wt (ps.take (k + 1)) = wt (ps.take k) + (64 + 16 * p.names.length)) := hw
      obtain ⟨l, f, s, nm, ie, rs, na, nc, names⟩ := p
      simp only at c0 c1 c2 c3 c4 c5 c6
      clear hc hp hat hok hw hpk
      go_wp2_with fail
      refine (partBytes_any r ⟨l, f, s, nm, ie, rs, na, nc, names⟩ _ (by omega) (by omega) hok').mono ?_
      rintro e w1 ⟨r6, rfl, hb6, a1, a2, a3⟩
      simp only at a3
      by_cases t1 : 1048576 < r6
      · go_wp2_with fail
        go_ret
        exact counts r6 (below_trans hnx hb6) (by omega) (by omega) (by omega)
      go_wp2_with fail
      go_roundw
      case rel => exact ⟨k + 1, r6, by omega, by go_num, rfl, by omega, by omega, by rw [HW.out]; omega, below_trans hnx hb6⟩
      case measure => simp [intOf]; omega
    · obtain rfl : k = ps.length := by omega
      go_wp2_with fail
      go_ret
      exact counts r hnx (by omega) (by omega) (fun _ => by rw [List.take_length] at q3; exact q3)

set_option maxHeartbeats 4000000 in
set_option maxRecDepth 100000 in
theorem reach_any (p : PartV) (w : World) : Calls Try.prog 15 #[p.val] w (Bools w) := by
  obtain ⟨l, f, s, nm, ie, rs, na, nc, names⟩ := p
  have hq := fun (w : World) (n c : Nat) => Lib.run_eql_slice_nil (P := Try.prog) w 27 9 na n c 0 0 Try.underlying27
  cases na
  · go_enter Try.func15, Try.ntmps15
    go_wp2
    go_ret
    exact bools _ (below_alloc _ _)
  · go_enter Try.func15, Try.ntmps15
    go_wp2
    all_goals
      go_ret
      exact bools _ (below_alloc _ _)

set_option maxHeartbeats 4000000 in
set_option maxRecDepth 100000 in
theorem allReach_any (a : Option Addr) (c : Nat) (ps : List PartV) (w : World) (hn : ps.length ≤ maxLen) (hp : PRow w a ps) :
    Calls Try.prog 7 #[.slice a ps.length c] w (Bools w) := by
  unfold maxLen at hn
  go_enter Try.func7, Try.ntmps7
  go_wp2_with fail
  go_loopw [3] (fun i wr => ∃ (k : Nat), k ≤ ps.length ∧ i = .int .i64 k ∧ Below w.heap.size w wr) (fun i _ => ps.length - (intOf i).toNat)
  case atStart => exact ⟨0, Nat.zero_le _, rfl, below_refl _⟩
  case round =>
    obtain ⟨k, hk, rfl, hnx⟩ := hrel
    by_cases hlt : k < ps.length
    · obtain ⟨b, off, rfl, hb, hc⟩ := hp k hlt
      obtain ⟨p, hpk⟩ : ∃ p, ps[k]? = some p := ⟨_, List.getElem?_eq_getElem hlt⟩
      obtain ⟨hat, hok⟩ := hc k p hpk
      obtain ⟨c0, c1, c2, c3, c4, c5, c6⟩ := hat.below hnx hb
      obtain ⟨l, f, s, nm, ie, rs, na, nc, names⟩ := p
      simp only at c0 c1 c2 c3 c4 c5 c6
      clear hc hp hat hok hpk
      go_wp2_with fail
      refine (reach_any ⟨l, f, s, nm, ie, rs, na, nc, names⟩ _).mono ?_
      rintro e w1 ⟨r, rfl, hb6⟩
      cases r
      · go_wp2_with fail
        go_ret
        exact bools _ (below_trans hnx hb6)
      · go_wp2_with fail
        go_roundw
        case rel => exact ⟨k + 1, by omega, by go_num, below_trans hnx hb6⟩
        case measure => simp [intOf]; omega
    · go_wp2_with fail
      go_ret
      exact bools _ hnx
end Go.Proofs.Qxb6628592a
