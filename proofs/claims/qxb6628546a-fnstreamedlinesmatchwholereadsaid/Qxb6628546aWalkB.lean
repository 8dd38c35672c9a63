import Derived.Test.Qxb6628546aWalkA
namespace Go.Proofs.Qxb6628546a
open Go.RowKit

set_option maxHeartbeats 2000000 in
set_option maxRecDepth 100000 in
theorem split6_any (a : Option Addr) (d : List Int) (c : Nat) (eof : Bool) (w : World) (hn : d.length ≤ 1048576) (hc : d.length ≤ c) (hs : ByteRow w a d) :
    Calls Try.prog 6 #[.slice a d.length c, .bool eof] w (Tells w (splitVal a c d eof)) := by
  have HC : Hid (Calls Try.prog 12 #[.slice a d.length c, .bool eof] w (Tells w (splitVal a c d eof))) := split12_any a d c eof w hn hc hs
  clear hs
  by_cases h0 : adv d eof = 0
  · rw [splitVal_zero h0] at *
    go_enter Try.func6, Try.ntmps6
    go_wp2_with fail
    refine Calls.mono HC.out ?_
    rintro e w' ⟨rfl, m, rfl⟩
    go_wp2_with fail
    go_ret3
    exact ⟨rfl, m, rfl⟩
  · rw [splitVal_pos ⟨rfl, rfl⟩ (by omega)] at *
    go_enter Try.func6, Try.ntmps6
    go_wp2_with fail
    refine Calls.mono HC.out ?_
    rintro e w' ⟨rfl, m, rfl⟩
    go_wp2_with fail
    go_ret3
    exact ⟨rfl, m, rfl⟩

set_option maxHeartbeats 2000000 in
set_option maxRecDepth 100000 in
theorem bytes5_any (a : Option Addr) (n c : Nat) (w : World) (hn : n ≤ maxLen) :
    Calls Try.prog 5 #[.slice a n c] w (Tells w (.bool (decide (n ≤ 1048576)))) := by
  unfold maxLen at hn
  by_cases h : n ≤ 1048576
  · rw [decide_eq_true h]
    go_enter Try.func5, Try.ntmps5
    go_wp2
    go_ret
    exact ⟨rfl, 0, rfl⟩
  · rw [decide_eq_false h]
    go_enter Try.func5, Try.ntmps5
    go_wp2
    go_ret
    exact ⟨rfl, 0, rfl⟩

set_option maxHeartbeats 2000000 in
set_option maxRecDepth 100000 in
theorem body_any (a : Option Addr) (d : List Int) (c c' t : Nat) (w : World) (hn : d.length ≤ 1048576) (ht : t ≤ d.length) (hs : ByteRow w a d) (hb : ∀ j, j < t → isEnd (d.getD j 0) = false) :
    Calls Try.prog 7 #[.slice a t c, .slice a d.length c'] w (Tells w (.bool true)) := by
  have HB : Hid (∀ j, j < t → isEnd (d.getD j 0) = false) := hb
  clear hb
  go_enter Try.func7, Try.ntmps7
  go_wp2
  go_loopw [5] (fun i wr => ∃ k n : Nat, k ≤ t ∧ i = .int .i64 k ∧ wr = w.drewN n) (fun i _ => t - (intOf i).toNat)
  case atStart => exact ⟨0, 0, Nat.zero_le _, rfl, rfl⟩
  case round =>
    obtain ⟨k, n, hk, rfl, rfl⟩ := hrel
    by_cases hlt : k < t
    · obtain ⟨b, off, rfl, hb, hc⟩ := hs k (by omega)
      have h1 := hc k (by omega)
      obtain ⟨x, hx⟩ : ∃ x, d.getD k 0 = x := ⟨_, rfl⟩
      have hx2 := not_isEnd.1 (HB.out k hlt)
      rw [hx] at h1 hx2
      have t10 : (x == 10) = false := beq_eq_false_iff_ne.2 hx2.1
      have t13 : (x == 13) = false := beq_eq_false_iff_ne.2 hx2.2
      have txx : (x != x) = false := by simp
      have hlt' : (k : Int) < (t : Int) := by omega
      have hlt2 : (k : Int) < (d.length : Int) := by omega
      clear hc hx hx2 hs
      go_wp2
      go_quiet (fail)
      go_wp2
      go_roundw
      case rel => exact ⟨k + 1, _, by omega, by go_num, rfl⟩
      case measure => simp [intOf]; omega
    · go_wp2
      go_ret
      exact ⟨rfl, n, rfl⟩
end Go.Proofs.Qxb6628546a
