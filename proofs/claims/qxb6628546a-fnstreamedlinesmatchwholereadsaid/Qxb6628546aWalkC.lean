import Derived.Test.Qxb6628546aWalkB
namespace Go.Proofs.Qxb6628546a
open Go.RowKit

def lenOf : Value → Nat
  | .slice _ n _ => n
  | _ => 0

theorem mate10 : mate 10 = 13 := rfl
theorem mate13 : mate 13 = 10 := rfl

set_option maxHeartbeats 2000000 in
set_option maxRecDepth 100000 in
theorem end_any (a : Option Addr) (d : List Int) (c t A : Nat) (w : World) (hn : d.length ≤ 1048576) (hs : ByteRow w a d) (hE : EndOk d t A) :
    Calls Try.prog 8 #[.slice a d.length c, .int .i64 t, .int .i64 A] w (Tells w (.bool true)) := by
  rcases hE with ⟨rfl, rfl⟩ | ⟨rfl, ht, he, hm⟩ | ⟨rfl, ht, he, hm⟩
  · go_enter Try.func8, Try.ntmps8
    go_wp2
    go_ret
    exact ⟨rfl, 0, rfl⟩
  · obtain ⟨b, off, rfl, hb, hc⟩ := hs t ht
    have h1 := hc t ht
    obtain ⟨x, hx⟩ : ∃ x, d.getD t 0 = x := ⟨_, rfl⟩
    rw [hx] at h1 he hm
    by_cases hl : t + 1 < d.length
    · have h2 := hc (t + 1) hl
      obtain ⟨y, hy⟩ : ∃ y, d.getD (t + 1) 0 = y := ⟨_, rfl⟩
      have hm2 := hm hl
      rw [hy] at h2 hm2
      clear hc hs hx hy hm
      rcases isEnd_iff.1 he with rfl | rfl
      · rw [mate10] at hm2
        have t1 : (y == 13) = false := beq_eq_false_iff_ne.2 hm2
        clear hm2 he
        go_enter Try.func8, Try.ntmps8
        go_wp2
        go_ret
        exact ⟨rfl, 0, rfl⟩
      · rw [mate13] at hm2
        have t1 : (y == 10) = false := beq_eq_false_iff_ne.2 hm2
        clear hm2 he
        go_enter Try.func8, Try.ntmps8
        go_wp2
        go_ret
        exact ⟨rfl, 0, rfl⟩
    · clear hc hs hx hm
      rcases isEnd_iff.1 he with rfl | rfl
      · clear he
        go_enter Try.func8, Try.ntmps8
        go_wp2
        go_ret
        exact ⟨rfl, 0, rfl⟩
      · clear he
        go_enter Try.func8, Try.ntmps8
        go_wp2
        go_ret
        exact ⟨rfl, 0, rfl⟩
  · obtain ⟨b, off, rfl, hb, hc⟩ := hs t (by omega)
    have h1 := hc t (by omega)
    have h2 := hc (t + 1) ht
    obtain ⟨x, hx⟩ : ∃ x, d.getD t 0 = x := ⟨_, rfl⟩
    rw [hx] at h1 he hm
    rw [hm] at h2
    clear hc hs hx hm
    rcases isEnd_iff.1 he with rfl | rfl
    · rw [mate10] at h2
      clear he
      go_enter Try.func8, Try.ntmps8
      go_wp2
      go_ret
      exact ⟨rfl, 0, rfl⟩
    · rw [mate13] at h2
      clear he
      go_enter Try.func8, Try.ntmps8
      go_wp2
      go_ret
      exact ⟨rfl, 0, rfl⟩

theorem row_drop {w : World} {b off : Nat} {d : List Int} {k : Nat} (hb : b < w.heap.size) (hc : ∀ t, t < d.length → w.cell? ⟨b, off + t, none⟩ = some (.int .u8 (d.getD t 0))) : ByteRow w (some ⟨b, off + k, none⟩) (d.drop k) := fun j hj => by
  refine ⟨b, off + k, rfl, hb, fun t ht => ?_⟩
  simp only [List.length_drop] at ht
  rw [Nat.add_assoc, hc (k + t) (by omega)]
  simp [List.getD_eq_getElem?_getD]

set_option maxHeartbeats 2000000 in
set_option maxRecDepth 100000 in
theorem law1_walk (a : Option Addr) (d : List Int) (c : Nat) (w : World) (hn : d.length ≤ maxLen) (hc : d.length ≤ c) (hs : ByteRow w a d) :
    Calls Try.prog 3 #[.slice a d.length c] w (Yes w) := by
  rcases Nat.lt_or_ge 1048576 d.length with hbig | hbig
  · have HB := bytes5_any a d.length c w hn
    rw [decide_eq_false (by omega)] at HB
    have HB' : Hid (Calls Try.prog 5 #[.slice a d.length c] w (Tells w (.bool false))) := HB
    clear HB hs
    go_enter Try.func3, Try.ntmps3
    go_wp2_with fail
    refine Calls.mono HB'.out ?_
    rintro e w' ⟨rfl, m, rfl⟩
    go_wp2_with fail
    go_ret
    exact ⟨rfl, below_drewN _ _⟩
  have HB := bytes5_any a d.length c w hn
  rw [decide_eq_true hbig] at HB
  have HB' : Hid (Calls Try.prog 5 #[.slice a d.length c] w (Tells w (.bool true))) := HB
  clear HB hn
  go_enter Try.func3, Try.ntmps3
  go_wp2_with fail
  refine Calls.mono HB'.out ?_
  rintro e w' ⟨rfl, m, rfl⟩
  clear HB'
  go_wp2_with fail
  go_loopw [3] (fun r wr => ∃ (a' : Option Addr) (d' : List Int) (c' m : Nat), r = .slice a' d'.length c' ∧ d'.length ≤ c' ∧ d'.length ≤ 1048576 ∧ wr = w.drewN m ∧ ByteRow w a' d') (fun r _ => lenOf r)
  case atStart => exact ⟨a, d, c, m, rfl, hc, hbig, rfl, hs⟩
  case round =>
    clear hs hc hbig
    obtain ⟨a', d', c', m, rfl, hc, hbig, rfl, hs⟩ := hrel
    by_cases h0 : 0 < d'.length
    · have hA := adv_pos h0
      have hA2 := adv_le d' true
      have hT := tl_le hA
      have HS := split6_any a' d' c' true (w.drewN m) hbig hc hs
      rw [splitVal_pos ⟨rfl, rfl⟩ hA] at HS
      obtain ⟨b, off, ha', hb, hcell⟩ := hs 0 h0
      have HY : Hid (∀ j, j < tl d' → isEnd (d'.getD j 0) = false) := fun j hj => fb_before d' j hj
      have HE : Hid (EndOk d' (tl d') (adv d' true)) := endOk
      have hrow : ByteRow w (some ⟨b, off + adv d' true, none⟩) (d'.drop (adv d' true)) := row_drop hb hcell
      subst ha'
      obtain ⟨A, hAe⟩ : ∃ A, adv d' true = A := ⟨_, rfl⟩
      obtain ⟨T, hTe⟩ : ∃ T, tl d' = T := ⟨_, rfl⟩
      rw [hAe] at hA hA2 hT HS HE hrow
      rw [hTe] at hT HS HY HE
      obtain ⟨D, hD⟩ : ∃ D, d'.drop A = D := ⟨_, rfl⟩
      have hDl : D.length = d'.length - A := by rw [← hD]; simp
      rw [hD] at hrow
      have HDl : Hid (D.length = d'.length - A) := hDl
      have HS' : Hid (Calls Try.prog 6 #[.slice (some ⟨b, off, none⟩) d'.length c', .bool true] (w.drewN m) (Tells (w.drewN m) (.tuple #[.int .i64 A, .slice (some ⟨b, off, none⟩) T c', .nilIface]))) := HS
      clear hAe hTe hD hDl HS hcell
      go_wp2_with fail
      refine Calls.mono HS'.out ?_
      rintro e w' ⟨rfl, m1, rfl⟩
      clear HS'
      go_wp2_with fail
      refine (body_any _ d' c' c' T _ hbig (by omega) (by exact hs) HY.out).mono ?_
      rintro e w' ⟨rfl, m2, rfl⟩
      go_wp2_with fail
      refine (end_any _ d' c' T A _ hbig (by exact hs) HE.out).mono ?_
      rintro e w' ⟨rfl, m3, rfl⟩
      go_wp2_with fail
      go_roundw
      case rel =>
        refine ⟨_, D, c' - A, _, by rw [HDl.out], by rw [HDl.out]; omega, by rw [HDl.out]; omega, rfl, ?_⟩
        split
        · exact ByteRow.empty _ _ (by rw [HDl.out]; omega)
        · exact hrow
      case measure => simp [lenOf]; omega
    · go_wp2_with fail
      go_ret
      exact ⟨rfl, below_drewN _ _⟩
end Go.Proofs.Qxb6628546a
