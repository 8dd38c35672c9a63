import Derived.Test.Qxb6628546aWords
namespace Go.Proofs.Qxb6628546a
open Go.RowKit

/-- What a split gives: the advance, the token (the slice's own head), no error. -/
def splitVal (a : Option Addr) (c : Nat) (d : List Int) (eof : Bool) : Value := .tuple #[.int .i64 (adv d eof), (if adv d eof = 0 then .slice none 0 0 else .slice a (tl d) c), .nilIface]

theorem splitVal_pos {a : Option Addr} {c A t : Nat} {d : List Int} {eof : Bool} (h : adv d eof = A ∧ tl d = t) (hp : 0 < A) : splitVal a c d eof = .tuple #[.int .i64 A, .slice a t c, .nilIface] := by
  unfold splitVal
  rw [h.1, h.2, if_neg (by omega)]
theorem splitVal_zero {a : Option Addr} {c : Nat} {d : List Int} {eof : Bool} (h : adv d eof = 0) : splitVal a c d eof = .tuple #[.int .i64 0, .slice none 0 0, .nilIface] := by
  unfold splitVal
  rw [h, if_pos rfl]; rfl
theorem at_pair {d : List Int} {k : Nat} {x y : Int} {eof : Bool} (hk : k + 1 < d.length) (hb : ∀ j, j < k → isEnd (d.getD j 0) = false) (hx : d.getD k 0 = x) (hy : d.getD (k + 1) 0 = y) (he : isEnd x = true) (hm : y = mate x) : adv d eof = k + 2 ∧ tl d = k := by
  have hf : fb d = k := fb_unique (by omega) hb (by rw [hx]; exact he)
  unfold adv tl
  rw [hf, hx, hy, if_pos (by omega), if_pos ⟨hk, hm⟩]
  exact ⟨rfl, rfl⟩
theorem at_one {d : List Int} {k : Nat} {x y : Int} {eof : Bool} (hk : k + 1 < d.length) (hb : ∀ j, j < k → isEnd (d.getD j 0) = false) (hx : d.getD k 0 = x) (hy : d.getD (k + 1) 0 = y) (he : isEnd x = true) (hm : y ≠ mate x) : adv d eof = k + 1 ∧ tl d = k := by
  have hf : fb d = k := fb_unique (by omega) hb (by rw [hx]; exact he)
  unfold adv tl
  rw [hf, hx, hy, if_pos (by omega), if_neg (fun h => hm h.2), if_pos (Or.inl hk)]
  exact ⟨rfl, rfl⟩
theorem at_last {d : List Int} {k : Nat} {x : Int} (hk : k < d.length) (hk2 : ¬ k + 1 < d.length) (hb : ∀ j, j < k → isEnd (d.getD j 0) = false) (hx : d.getD k 0 = x) (he : isEnd x = true) : (adv d true = k + 1 ∧ tl d = k) ∧ adv d false = 0 := by
  have hf : fb d = k := fb_unique (by omega) hb (by rw [hx]; exact he)
  unfold adv tl
  rw [hf, if_pos hk, if_neg (fun h => hk2 h.1), if_pos (Or.inr rfl), if_pos hk, if_neg (fun h => hk2 h.1), if_neg (by simp; omega)]
  exact ⟨⟨rfl, rfl⟩, rfl⟩
theorem at_none {d : List Int} (hb : ∀ j, j < d.length → isEnd (d.getD j 0) = false) : (adv d true = d.length ∧ tl d = d.length) ∧ adv d false = 0 := by
  have hf : fb d = d.length := fb_none hb
  unfold adv tl
  rw [hf, if_neg (Nat.lt_irrefl _), if_neg (Nat.lt_irrefl _)]
  exact ⟨⟨rfl, rfl⟩, rfl⟩
theorem ends_next {d : List Int} {k : Nat} {x : Int} (hb : ∀ j, j < k → isEnd (d.getD j 0) = false) (hx : d.getD k 0 = x) (he : isEnd x = false) : ∀ j, j < k + 1 → isEnd (d.getD j 0) = false := fun j hj => by
  by_cases e : j = k
  · subst e; rw [hx]; exact he
  · exact hb j (by omega)

set_option maxHeartbeats 2000000 in
set_option maxRecDepth 100000 in
theorem split12_any (a : Option Addr) (d : List Int) (c : Nat) (eof : Bool) (w : World) (hn : d.length ≤ 1048576) (hc : d.length ≤ c) (hs : ByteRow w a d) :
    Calls Try.prog 12 #[.slice a d.length c, .bool eof] w (Tells w (splitVal a c d eof)) := by
  go_enter Try.func12, Try.ntmps12
  go_wp2
  go_loop [12] (fun i => ∃ k : Nat, k ≤ d.length ∧ i = .int .i64 k ∧ Hid (∀ j, j < k → isEnd (d.getD j 0) = false)) (fun i => d.length - (intOf i).toNat)
  case atStart => exact ⟨0, Nat.zero_le _, rfl, hid (fun j hj => absurd hj (by omega))⟩
  case round =>
    obtain ⟨k, hk, rfl, HB⟩ := hrel
    by_cases hlt : k < d.length
    · obtain ⟨b, off, rfl, hb, hcell⟩ := hs k hlt
      have h1 := hcell k hlt
      obtain ⟨x, hx⟩ : ∃ x, d.getD k 0 = x := ⟨_, rfl⟩
      rw [hx] at h1
      have HX : Hid (d.getD k 0 = x) := hx
      clear hx hs
      by_cases e10 : x = 10
      · subst e10
        by_cases hl2 : k + 1 < d.length
        · have h2 := hcell (k + 1) hl2
          obtain ⟨y, hy⟩ : ∃ y, d.getD (k + 1) 0 = y := ⟨_, rfl⟩
          rw [hy] at h2
          have HY : Hid (d.getD (k + 1) 0 = y) := hy
          clear hy hcell
          cases h13 : (y == 13)
          · have HV := splitVal_pos (a := some ⟨b, off, none⟩) (c := c) (at_one (eof := eof) hl2 HB.out HX.out HY.out (by decide) (by have := beq_eq_false_iff_ne.1 h13; simpa [mate] using this)) (Nat.succ_pos _)
            have HV' : Hid _ := HV
            clear HV
            go_wp2
            go_quiet (fail)
            go_wp2
            go_ret3
            exact ⟨congrArg Ending.returned (HV'.out.trans (by rfl)).symm, _, rfl⟩
          · have HV := splitVal_pos (a := some ⟨b, off, none⟩) (c := c) (at_pair (eof := eof) hl2 HB.out HX.out HY.out (by decide) (by have := beq_iff_eq.1 h13; simpa [mate] using this)) (Nat.succ_pos _)
            have HV' : Hid _ := HV
            clear HV
            go_wp2
            go_quiet (fail)
            go_wp2
            go_ret3
            exact ⟨congrArg Ending.returned (HV'.out.trans (by rfl)).symm, _, rfl⟩
        · clear hcell
          have hL := at_last hlt hl2 HB.out HX.out (by decide)
          cases eof
          · have HV := splitVal_zero (a := some ⟨b, off, none⟩) (c := c) hL.2
            have HV' : Hid _ := HV
            clear HV hL
            go_wp2
            go_ret3
            exact ⟨congrArg Ending.returned (HV'.out.trans (by rfl)).symm, 0, rfl⟩
          · have HV := splitVal_pos (a := some ⟨b, off, none⟩) (c := c) hL.1 (Nat.succ_pos _)
            have HV' : Hid _ := HV
            clear HV hL
            go_wp2
            go_quiet (fail)
            go_wp2
            go_ret3
            exact ⟨congrArg Ending.returned (HV'.out.trans (by rfl)).symm, _, rfl⟩
      by_cases e13 : x = 13
      · subst e13
        by_cases hl2 : k + 1 < d.length
        · have h2 := hcell (k + 1) hl2
          obtain ⟨y, hy⟩ : ∃ y, d.getD (k + 1) 0 = y := ⟨_, rfl⟩
          rw [hy] at h2
          have HY : Hid (d.getD (k + 1) 0 = y) := hy
          clear hy hcell
          cases h13 : (y == 10)
          · have HV := splitVal_pos (a := some ⟨b, off, none⟩) (c := c) (at_one (eof := eof) hl2 HB.out HX.out HY.out (by decide) (by have := beq_eq_false_iff_ne.1 h13; simpa [mate] using this)) (Nat.succ_pos _)
            have HV' : Hid _ := HV
            clear HV
            go_wp2
            go_quiet (fail)
            go_wp2
            go_ret3
            exact ⟨congrArg Ending.returned (HV'.out.trans (by rfl)).symm, _, rfl⟩
          · have HV := splitVal_pos (a := some ⟨b, off, none⟩) (c := c) (at_pair (eof := eof) hl2 HB.out HX.out HY.out (by decide) (by have := beq_iff_eq.1 h13; simpa [mate] using this)) (Nat.succ_pos _)
            have HV' : Hid _ := HV
            clear HV
            go_wp2
            go_quiet (fail)
            go_wp2
            go_ret3
            exact ⟨congrArg Ending.returned (HV'.out.trans (by rfl)).symm, _, rfl⟩
        · clear hcell
          have hL := at_last hlt hl2 HB.out HX.out (by decide)
          cases eof
          · have HV := splitVal_zero (a := some ⟨b, off, none⟩) (c := c) hL.2
            have HV' : Hid _ := HV
            clear HV hL
            go_wp2
            go_ret3
            exact ⟨congrArg Ending.returned (HV'.out.trans (by rfl)).symm, 0, rfl⟩
          · have HV := splitVal_pos (a := some ⟨b, off, none⟩) (c := c) hL.1 (Nat.succ_pos _)
            have HV' : Hid _ := HV
            clear HV hL
            go_wp2
            go_quiet (fail)
            go_wp2
            go_ret3
            exact ⟨congrArg Ending.returned (HV'.out.trans (by rfl)).symm, _, rfl⟩
      have hne : isEnd x = false := not_isEnd.2 ⟨e10, e13⟩
      have t10 : (x == 10) = false := beq_eq_false_iff_ne.2 e10
      have t13 : (x == 13) = false := beq_eq_false_iff_ne.2 e13
      have HN : Hid (∀ j, j < k + 1 → isEnd (d.getD j 0) = false) := ends_next HB.out HX.out hne
      clear hcell hne e10 e13
      go_wp2
      go_round
      case rel => exact ⟨k + 1, by omega, by go_num, HN.out⟩
      case measure => simp [intOf]; omega
    · obtain rfl : k = d.length := by omega
      have hL := at_none HB.out
      cases eof
      · have HV := splitVal_zero (a := a) (c := c) hL.2
        have HV' : Hid _ := HV
        clear HV hL hs
        go_wp2
        go_ret3
        exact ⟨congrArg Ending.returned (HV'.out.trans (by rfl)).symm, 0, rfl⟩
      · by_cases h0 : 0 < d.length
        · have HV := splitVal_pos (a := a) (c := c) hL.1 h0
          have HV' : Hid _ := HV
          clear HV hL hs
          go_wp2
          go_ret3
          exact ⟨congrArg Ending.returned (HV'.out.trans (by rfl)).symm, 0, rfl⟩
        · have HV := splitVal_zero (a := a) (c := c) (d := d) (eof := true) (by rw [hL.1.1]; omega)
          have HV' : Hid _ := HV
          clear HV hL hs
          go_wp2
          go_ret3
          exact ⟨congrArg Ending.returned (HV'.out.trans (by rfl)).symm, 0, rfl⟩
end Go.Proofs.Qxb6628546a
