import Derived.Test.Qxb6628592aWords
namespace Go.Proofs.Qxb6628592a
open Go.RowKit

set_option maxHeartbeats 8000000 in
set_option maxRecDepth 100000 in
theorem bytesA_any (a : Option Addr) (c : Nat) (ps : List PartV) (k : Int) (w : World) (hn : ps.length ≤ maxLen) (hp : PRow w a ps) :
    Calls Try.prog 5 #[.slice a ps.length c, .int .i64 k] w (Bools w) := by
  unfold maxLen at hn
  go_enter Try.func5, Try.ntmps5
  go_wp2
  · go_ret
    exact bools _ (below_refl _)
  go_loop [5, 6] (fun t i => ∃ (k : Nat) (z : Int), k ≤ ps.length ∧ i = .int .i64 k ∧ t = .int .i64 z ∧ 0 ≤ z ∧ z ≤ 1048576) (fun _ i => ps.length - (intOf i).toNat)
  case atStart => exact ⟨0, _, Nat.zero_le _, rfl, rfl, by omega, by omega⟩
  case round =>
    obtain ⟨k, z, hk, rfl, rfl, hz0, hz1⟩ := hrel
    by_cases hlt : k < ps.length
    · obtain ⟨b, off, rfl, hb, hc⟩ := hp k hlt
      obtain ⟨p, hpk⟩ : ∃ p, ps[k]? = some p := ⟨_, List.getElem?_eq_getElem hlt⟩
      obtain ⟨hat, hok⟩ := hc k p hpk
      obtain ⟨c0, c1, c2, c3, c4, c5, c6⟩ := hat
      have b1 := hok.l1
      have b2 := hok.l2
      have b3 := hok.l3
      have b4 := hok.l4
      have bn := hok.ln
      have hrow := hok.row
      have hl5 := hok.l5
      obtain ⟨l, f, s, nm, ie, rs, na, nc, names⟩ := p
      simp only at c0 c1 c2 c3 c4 c5 c6 b1 b2 b3 b4 bn hrow hl5
      unfold maxLen at b1 b2 b3 b4 bn
      clear hc hp hok hpk
      by_cases t1 : 1048576 < l.size
      · go_wp2
        go_ret
        exact bools _ (below_refl _)
      by_cases t2 : 1048576 < z + l.size
      · go_wp2
        go_ret
        exact bools _ (below_refl _)
      by_cases t3 : 1048576 < f.size
      · go_wp2
        go_ret
        exact bools _ (below_refl _)
      by_cases t4 : 1048576 < z + l.size + f.size
      · go_wp2
        go_ret
        exact bools _ (below_refl _)
      by_cases t5 : 1048576 < s.size
      · go_wp2
        go_ret
        exact bools _ (below_refl _)
      by_cases t6 : 1048576 < z + l.size + f.size + s.size
      · go_wp2
        go_ret
        exact bools _ (below_refl _)
      by_cases t7 : 1048576 < ie.size
      · go_wp2
        go_ret
        exact bools _ (below_refl _)
      by_cases t8 : 1048576 < z + l.size + f.size + s.size + ie.size
      · go_wp2
        go_ret
        exact bools _ (below_refl _)
      by_cases t9 : 1048576 < names.length
      · go_wp2
        go_ret
        exact bools _ (below_refl _)
      by_cases t10 : 1048576 < z + l.size + f.size + s.size + ie.size + names.length
      · go_wp2
        go_ret
        exact bools _ (below_refl _)
      go_wp2
      go_loop [5, 7] (fun t i => ∃ (j : Nat) (z : Int), j ≤ names.length ∧ i = .int .i64 j ∧ t = .int .i64 z ∧ 0 ≤ z ∧ z ≤ 1048576) (fun _ i => names.length - (intOf i).toNat)
      case atStart => exact ⟨0, _, Nat.zero_le _, rfl, rfl, by omega, by omega⟩
      case round =>
        clear t1 t2 t3 t4 t5 t6 t7 t8 t9 t10 hz0 hz1
        obtain ⟨j, z, hj, rfl, rfl, hz0, hz1⟩ := hrel
        by_cases hlj : j < names.length
        · obtain ⟨bn, on, rfl, hbn, hcn⟩ := hrow j hlj
          have hx1 := hcn j hlj
          have hx2 := hl5 j hlj
          unfold maxLen at hx2
          obtain ⟨x, hx⟩ : ∃ x, names.getD j [] = x := ⟨_, rfl⟩
          rw [hx] at hx1 hx2
          clear hcn hx hrow hl5
          by_cases t1 : 1048576 < x.length
          · go_wp2
            go_ret
            exact bools _ (below_refl _)
          by_cases t2 : 1048576 < z + x.length
          · go_wp2
            go_ret
            exact bools _ (below_refl _)
          go_wp2
          go_round
          case rel => exact ⟨j + 1, _, by omega, by go_num, rfl, by omega, by omega⟩
          case measure => simp [intOf]; omega
        · go_wp2
          go_round
          case rel => exact ⟨k + 1, _, by omega, by go_num, rfl, hz0, hz1⟩
          case measure => simp [intOf]; omega
    · go_wp2
      go_ret
      exact bools _ (below_refl _)
end Go.Proofs.Qxb6628592a
