import Derived.Test.Qxb6628546aWalkC
import Derived.Test.Qxb6628546aRows2
namespace Go.Proofs.Qxb6628546a
open Go.RowKit

set_option maxHeartbeats 2000000 in
set_option maxRecDepth 100000 in
theorem bytes9_any (a : Option Addr) (n c : Nat) (k : Int) (w : World) (hn : n ≤ maxLen) :
    Calls Try.prog 9 #[.slice a n c, .int .i64 k] w (Tells w (.bool (decide (n ≤ 1048576)))) := by
  unfold maxLen at hn
  by_cases h : n ≤ 1048576
  · rw [decide_eq_true h]
    go_enter Try.func9, Try.ntmps9
    go_wp2
    go_ret
    exact ⟨rfl, 0, rfl⟩
  · rw [decide_eq_false h]
    go_enter Try.func9, Try.ntmps9
    go_wp2
    go_ret
    exact ⟨rfl, 0, rfl⟩

set_option maxHeartbeats 2000000 in
set_option maxRecDepth 100000 in
theorem prefix_any (a : Option Addr) (d : List Int) (n c c' t : Nat) (w : World) (hn : d.length ≤ 1048576) (hnl : n = d.length) (ht : t ≤ d.length) (hs : ByteRow w a d) :
    Calls Try.prog 11 #[.slice a t c, .slice a n c'] w (Tells w (.bool true)) := by
  subst hnl
  go_enter Try.func11, Try.ntmps11
  go_wp2
  go_loopw [5] (fun i wr => ∃ k n : Nat, k ≤ t ∧ i = .int .i64 k ∧ wr = w.drewN n) (fun i _ => t - (intOf i).toNat)
  case atStart => exact ⟨0, 0, Nat.zero_le _, rfl, rfl⟩
  case round =>
    obtain ⟨k, n, hk, rfl, rfl⟩ := hrel
    by_cases hlt : k < t
    · obtain ⟨b, off, rfl, hb, hc⟩ := hs k (by omega)
      have h1 := hc k (by omega)
      obtain ⟨x, hx⟩ : ∃ x, d.getD k 0 = x := ⟨_, rfl⟩
      rw [hx] at h1
      have txx : (x != x) = false := by simp
      have hlt' : (k : Int) < (t : Int) := by omega
      have hlt2 : (k : Int) < (d.length : Int) := by omega
      clear hc hx hs
      go_wp2
      go_quiet (fail)
      go_wp2
      go_roundw
      case rel => exact ⟨k + 1, _, by omega, by go_num, rfl⟩
      case measure => simp [intOf]; omega
    · go_wp2
      go_ret
      exact ⟨rfl, n, rfl⟩

/-- What linesAtEOF leaves. -/
def LinesPost (w : World) (d : List Int) (e : Ending) (w' : World) : Prop :=
  ∃ v u, e = .returned (.tuple #[v, u, .bool true]) ∧ Two w.heap.size w' v u ((lines d).map Prod.fst) ((lines d).map Prod.snd) ∧ Below w.heap.size w w'

/-- The rounds' relation: the lines up to 'off'. -/
def LRel (w : World) (d : List Int) (v u : Value) (off : Nat) (wr : World) : Prop :=
  ∃ L, Two w.heap.size wr v u (L.map Prod.fst) (L.map Prod.snd) ∧ Below w.heap.size w wr ∧ Sofar d off L

set_option maxHeartbeats 2000000 in
set_option maxRecDepth 100000 in
theorem lines_any (a : Option Addr) (d : List Int) (c : Nat) (w : World) (hn : d.length ≤ 1048576) (hc : d.length ≤ c) (hs : ByteRow w a d) :
    Calls Try.prog 10 #[.slice a d.length c] w (LinesPost w d) := by
  go_enter Try.func10, Try.ntmps10
  go_wp2
  go_loopw [5, 6, 7] (fun v u o wr => ∃ off : Nat, off ≤ d.length ∧ o = .int .i64 off ∧ LRel w d v u off wr) (fun _ _ o _ => d.length - (intOf o).toNat)
  case atStart => exact ⟨0, Nat.zero_le _, rfl, [], Two.nil _ _, Below.refl _ _, Sofar.start d⟩
  case round =>
    obtain ⟨off, ho, rfl, L, hT, hnx, hS⟩ := hrel
    by_cases hlt : off < d.length
    · obtain ⟨b, o, ha, hb, hcell⟩ := hs off hlt
      have hrow : ByteRow w (some ⟨b, o + off, none⟩) (d.drop off) := row_drop hb hcell
      have hrow' := hrow.below hnx
      have hLl : L.length ≤ 1048576 := Nat.le_trans hS.len (Nat.le_trans (lines_le d) hn)
      have hS2 := hS.step hlt
      obtain ⟨D, hD⟩ : ∃ D, d.drop off = D := ⟨_, rfl⟩
      have hDl : D.length = d.length - off := by rw [← hD]; simp
      rw [hD] at hrow' hS2
      have hA := adv_pos (d := D) (by omega)
      have hA2 := adv_le D true
      have hT2 := tl_le hA
      have HS := split6_any _ D (c - off) true wr (by omega) (by omega) hrow'
      rw [splitVal_pos ⟨rfl, rfl⟩ hA, hDl] at HS
      obtain ⟨A, hAe⟩ : ∃ A, adv D true = A := ⟨_, rfl⟩
      obtain ⟨T, hTe⟩ : ∃ T, tl D = T := ⟨_, rfl⟩
      rw [hAe] at hA hA2 hT2 HS hS2
      rw [hTe] at hT2 HS hS2
      rw [hDl] at hA2
      have HS' : Hid (Calls Try.prog 6 #[.slice (some ⟨b, o + off, none⟩) (d.length - off) (c - off), .bool true] wr (Tells wr (.tuple #[.int .i64 A, .slice (some ⟨b, o + off, none⟩) T (c - off), .nilIface]))) := HS
      have HDl : Hid (D.length = d.length - off) := hDl
      have hcne : ¬ c = off := by omega
      subst ha
      clear hs HS hDl hcell hrow hD hAe hTe hS
      have hLl1 : (L.map Prod.fst).length ≤ 1048576 := by simpa using hLl
      have hLl2 : (L.map Prod.snd).length ≤ 1048576 := by simpa using hLl
      go_wp2_with fail
      refine Calls.mono HS'.out ?_
      rintro e w' ⟨rfl, m1, rfl⟩
      clear HS'
      go_wp2_with fail
      refine (prefix_any _ D (d.length - off) _ _ T _ (by rw [HDl.out]; omega) HDl.out.symm (by rw [HDl.out]; omega) (by exact hrow')).mono ?_
      rintro e w' ⟨rfl, m2, rfl⟩
      obtain ⟨L1, hL1⟩ : ∃ L1, L.map Prod.fst = L1 := ⟨_, rfl⟩
      obtain ⟨L2, hL2⟩ : ∃ L2, L.map Prod.snd = L2 := ⟨_, rfl⟩
      rw [hL1] at hT hLl1
      rw [hL2] at hT hLl2
      have HL1 : Hid (L.map Prod.fst = L1) := hL1
      have HL2 : Hid (L.map Prod.snd = L2) := hL2
      clear hL1 hL2 hLl
      go_wp2_with (first | (at_builtin; refine wpList_pushI (B := w.heap.size) (L := L1) (M := L2) (x := A) rfl (.tmp 47) (.tmp 49) rfl rfl rfl (by rfl) (by exact hnx.size) hLl1 (hT.drewN _) ?_; intro v1 w1 hT1 hb1) | (at_builtin; refine wpList_pushI (B := w.heap.size) (L := L2) (M := L1 ++ [A]) (x := T) rfl (.tmp 51) (.tmp 54) rfl rfl rfl (by rfl) (by exact Nat.le_trans hnx.size hb1.size) hLl2 hT1.flip ?_; intro v2 w2 hT3 hb2))
      go_roundw
      case rel => exact ⟨off + A, by omega, by go_num, L ++ [(A, T)], by rw [List.map_append, List.map_append, HL1.out, HL2.out]; exact hT3.flip, (below_from_drewN hnx hb1).trans hb2, hS2⟩
      case measure => simp [intOf]; omega
    · go_wp2
      go_ret3
      exact ⟨_, _, rfl, by rw [← hS.done (by omega)]; exact hT, hnx⟩
end Go.Proofs.Qxb6628546a
