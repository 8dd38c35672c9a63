import Derived.Test.Qxb6628504aWords
namespace Go.Proofs.Qxb6628504a
open Go.RowKit

theorem search_up {ws : List S} {x : S} {lo hi : Nat} (hB : BInv ws x lo hi) (ha : Asc ws) (hlt : lo < hi) (h : Op.bytesLess (ws[lo + (hi - lo) / 2]?.getD []) x = true) : BInv ws x (lo + (hi - lo) / 2 + 1) hi := by
  rw [bytesLess_eq, decide_eq_true_eq] at h
  exact hB.up ha (by omega) (by omega) (by rw [List.getD_eq_getElem?_getD]; exact h)
theorem search_down {ws : List S} {x : S} {lo hi : Nat} (hB : BInv ws x lo hi) (ha : Asc ws) (hlt : lo < hi) (h : Op.bytesLess (ws[lo + (hi - lo) / 2]?.getD []) x = false) : BInv ws x lo (lo + (hi - lo) / 2) := by
  rw [bytesLess_eq, decide_eq_false_iff_not] at h
  exact hB.down ha (by omega) (by omega) (by rw [List.getD_eq_getElem?_getD]; exact h)
theorem int_eq {k : IntKind} {a b : Int} (h : a = b) : Value.int k a = .int k b := by rw [h]

set_option maxHeartbeats 1000000 in
/-- zzSearch: in a strictly ascending list that holds s it finds s's place. -/
theorem search_any (a : Option Addr) (ws : List S) (c i : Nat) (w : World) (hn : ws.length ≤ 1048576) (hs : StrRow w a ws) (hi : i < ws.length) (ha : Asc ws) (x : S) (hx : ws.getD i [] = x) :
    Calls Try.prog 15 #[.slice a ws.length c, .string ⟨x.toArray⟩] w (Tells w (.int .i64 i)) := by
  obtain ⟨b, off, rfl, hb, hc⟩ := hs i hi
  clear hs
  have HX : Hid (ws.getD i [] = x) := hx
  clear hx
  go_enter Try.func15, Try.ntmps15
  go_wp2
  go_loop [5, 6] (fun l h => ∃ lo hi : Nat, l = .int .i64 lo ∧ h = .int .i64 hi ∧ lo ≤ hi ∧ hi ≤ ws.length ∧ Hid (BInv ws x lo hi)) (fun l h => (intOf h).toNat - (intOf l).toNat)
  case atStart => exact ⟨0, ws.length, rfl, rfl, Nat.zero_le _, Nat.le_refl _, BInv.start _ _⟩
  case round =>
    obtain ⟨lo, hi, rfl, rfl, hle, htop, hB⟩ := hrel
    by_cases hlt : lo < hi
    · have hcm := hc (lo + (hi - lo) / 2) (by omega)
      go_wp2
      · have h : Op.bytesLess (ws[lo + (hi - lo) / 2]?.getD []) x = true := by assumption
        go_round
        case rel => exact ⟨lo + (hi - lo) / 2 + 1, hi, int_eq (by omega), rfl, by omega, htop, search_up hB.out ha hlt h⟩
        case measure => simp [intOf]; omega
      · have h : Op.bytesLess (ws[lo + (hi - lo) / 2]?.getD []) x = false := by assumption
        go_round
        case rel => exact ⟨lo, lo + (hi - lo) / 2, rfl, int_eq (by omega), by omega, by omega, search_down hB.out ha hlt h⟩
        case measure => simp [intOf]; omega
    · obtain rfl : lo = hi := by omega
      have hlo := hB.out.found ha hi HX.out
      subst hlo
      have hcm := hc lo hi
      go_wp2
      · go_ret
        exact ⟨rfl, 0, rfl⟩
      · have h : (ws[lo] == x) = false := by assumption
        have := HX.out
        simp [hi] at this
        simp [this] at h

set_option maxHeartbeats 1000000 in
/-- zzSameStrings at two slices that hold the same strings. -/
theorem same_any (a a' : Option Addr) (ss : List S) (c c' : Nat) (w : World) (hn : ss.length ≤ 1048576) (hs : StrRow w a ss) (hs' : StrRow w a' ss) :
    Calls Try.prog 9 #[.slice a ss.length c, .slice a' ss.length c'] w (Tells w (.bool true)) := by
  go_enter Try.func9, Try.ntmps9
  go_wp2
  go_loopw [5] (fun i wr => ∃ k n : Nat, k ≤ ss.length ∧ i = .int .i64 k ∧ wr = w.drewN n) (fun i _ => ss.length - (intOf i).toNat)
  case atStart => exact ⟨0, 0, Nat.zero_le _, rfl, rfl⟩
  case round =>
    obtain ⟨k, n, hk, rfl, rfl⟩ := hrel
    by_cases hlt : k < ss.length
    · obtain ⟨b, off, rfl, hb, hc⟩ := hs k hlt
      obtain ⟨b', off', rfl, hb', hc'⟩ := hs' k hlt
      have h1 := hc k hlt
      have h2 := hc' k hlt
      have hlt' : (k : Int) < (ss.length : Int) := by omega
      clear hc hc' hs hs'
      go_wp2
      go_quiet (fail)
      go_wp2
      go_roundw
      case rel => exact ⟨k + 1, _, by omega, by go_num, rfl⟩
      case measure => simp [intOf]; omega
    · go_wp2
      go_ret
      exact ⟨rfl, n, rfl⟩
end Go.Proofs.Qxb6628504a
