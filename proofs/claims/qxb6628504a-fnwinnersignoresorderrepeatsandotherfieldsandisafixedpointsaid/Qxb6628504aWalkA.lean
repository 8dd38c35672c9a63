import Derived.Test.Qxb6628504aWords
namespace Go.Proofs.Qxb6628504a
open Go.RowKit

def P6 (n : Nat) (r : Bool) : Prop := r = false → n ≤ 65536

set_option maxHeartbeats 1000000 in
/-- zzTooBig: where it says no there are at most 65536 banks. -/
theorem tooBig_any (tid : ByteArray) (a a1 a2 : Option Addr) (ss : List S) (c n1 c1 n2 c2 : Nat) (w : World) (ht : tid.size ≤ maxLen) (hn : ss.length ≤ maxLen) (hn1 : n1 ≤ maxLen) (hn2 : n2 ≤ maxLen) (hs : StrRow w a ss) :
    Calls Try.prog 6 #[.string tid, .slice a ss.length c, .slice a1 n1 c1, .slice a2 n2 c2] w (Says w (P6 ss.length)) := by
  unfold maxLen at ht hn hn1 hn2
  rcases Nat.lt_or_ge 1048576 tid.size with h1 | h1
  · go_enter Try.func6, Try.ntmps6
    go_wp2
    go_ret
    exact says true (fun h => by cases h)
  rcases Nat.lt_or_ge 65536 ss.length with h2 | h2
  · go_enter Try.func6, Try.ntmps6
    go_wp2
    go_ret
    exact says true (fun h => by cases h)
  rcases Nat.lt_or_ge 65536 n1 with h3 | h3
  · go_enter Try.func6, Try.ntmps6
    go_wp2
    go_ret
    exact says true (fun h => by cases h)
  rcases Nat.lt_or_ge 65536 n2 with h4 | h4
  · go_enter Try.func6, Try.ntmps6
    go_wp2
    go_ret
    exact says true (fun h => by cases h)
  go_enter Try.func6, Try.ntmps6
  go_wp2
  · go_ret
    exact says true (fun h => by cases h)
  go_loop [9, 10] (fun t i => ∃ (k : Nat) (z : Int), k ≤ ss.length ∧ i = .int .i64 k ∧ t = .int .i64 z ∧ 0 ≤ z ∧ z ≤ 1048576) (fun _ i => ss.length - (intOf i).toNat)
  case atStart => exact ⟨0, _, Nat.zero_le _, rfl, rfl, by omega, by omega⟩
  case round =>
    obtain ⟨k, z, hk, rfl, rfl, hz0, hz1⟩ := hrel
    by_cases hlt : k < ss.length
    · obtain ⟨b, off, rfl, hb, hc⟩ := hs k hlt
      have hck := hc k hlt
      go_wp2
      · go_ret
        exact says true (fun h => by cases h)
      · go_ret
        exact says true (fun h => by cases h)
      · go_round
        case rel => exact ⟨k + 1, _, by omega, by go_num, rfl, by omega, by omega⟩
        case measure => simp [intOf]; omega
    · go_wp2
      go_ret
      exact says false (fun _ => h2)

set_option maxHeartbeats 1000000 in
/-- zzBytes_..: it answers; nothing turns. -/
theorem bytesA_any (tid : ByteArray) (m x1 x2 x3 : Int) (a a1 a2 : Option Addr) (ss : List S) (c n1 c1 n2 c2 : Nat) (k : Int) (w : World) (ht : tid.size ≤ maxLen) (hn : ss.length ≤ maxLen) (hn1 : n1 ≤ maxLen) (hn2 : n2 ≤ maxLen) (hs : StrRow w a ss) :
    Calls Try.prog 5 #[.string tid, .int .i64 m, .int .i64 x1, .int .i64 x2, .int .i64 x3, .slice a ss.length c, .slice a1 n1 c1, .slice a2 n2 c2, .int .i64 k] w (Says w PAny) := by
  unfold maxLen at ht hn hn1 hn2
  go_enter Try.func5, Try.ntmps5
  go_wp2
  · go_ret
    exact says false trivial
  · go_ret
    exact says false trivial
  · go_ret
    exact says false trivial
  go_loop [19, 20] (fun t i => ∃ (k : Nat) (z : Int), k ≤ ss.length ∧ i = .int .i64 k ∧ t = .int .i64 z ∧ 0 ≤ z ∧ z ≤ 1048576) (fun _ i => ss.length - (intOf i).toNat)
  case atStart => exact ⟨0, _, Nat.zero_le _, rfl, rfl, by omega, by omega⟩
  case round =>
    obtain ⟨k, z, hk, rfl, rfl, hz0, hz1⟩ := hrel
    by_cases hlt : k < ss.length
    · obtain ⟨b, off, rfl, hb, hc⟩ := hs k hlt
      have hck := hc k hlt
      go_wp2
      · go_ret
        exact says false trivial
      · go_ret
        exact says false trivial
      · go_round
        case rel => exact ⟨k + 1, _, by omega, by go_num, rfl, by omega, by omega⟩
        case measure => simp [intOf]; omega
    · go_wp2
      all_goals go_ret
      all_goals exact says _ trivial
set_option maxHeartbeats 1000000 in
/-- zzBytes_..: it answers; nothing turns. -/
theorem bytesB_any (tid : ByteArray) (m x1 x2 x3 : Int) (a a1 a2 : Option Addr) (ss : List S) (c n1 c1 n2 c2 : Nat) (k : Int) (w : World) (ht : tid.size ≤ maxLen) (hn : ss.length ≤ maxLen) (hn1 : n1 ≤ maxLen) (hn2 : n2 ≤ maxLen) (hs : StrRow w a ss) :
    Calls Try.prog 12 #[.string tid, .int .i64 m, .int .i64 x1, .int .i64 x2, .int .i64 x3, .slice a ss.length c, .slice a1 n1 c1, .slice a2 n2 c2, .int .i64 k] w (Says w PAny) := by
  unfold maxLen at ht hn hn1 hn2
  go_enter Try.func12, Try.ntmps12
  go_wp2
  · go_ret
    exact says false trivial
  · go_ret
    exact says false trivial
  · go_ret
    exact says false trivial
  go_loop [19, 20] (fun t i => ∃ (k : Nat) (z : Int), k ≤ ss.length ∧ i = .int .i64 k ∧ t = .int .i64 z ∧ 0 ≤ z ∧ z ≤ 1048576) (fun _ i => ss.length - (intOf i).toNat)
  case atStart => exact ⟨0, _, Nat.zero_le _, rfl, rfl, by omega, by omega⟩
  case round =>
    obtain ⟨k, z, hk, rfl, rfl, hz0, hz1⟩ := hrel
    by_cases hlt : k < ss.length
    · obtain ⟨b, off, rfl, hb, hc⟩ := hs k hlt
      have hck := hc k hlt
      go_wp2
      · go_ret
        exact says false trivial
      · go_ret
        exact says false trivial
      · go_round
        case rel => exact ⟨k + 1, _, by omega, by go_num, rfl, by omega, by omega⟩
        case measure => simp [intOf]; omega
    · go_wp2
      all_goals go_ret
      all_goals exact says _ trivial
end Go.Proofs.Qxb6628504a
