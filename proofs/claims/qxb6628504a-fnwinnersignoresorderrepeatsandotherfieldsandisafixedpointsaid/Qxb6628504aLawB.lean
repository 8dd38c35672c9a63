import Derived.Test.Qxb6628504aLawA
namespace Go.Proofs.Qxb6628504a
open Go.RowKit

theorem hid {p : Prop} (h : p) : Hid p := h
theorem Win.self {ss ws : List S} (h : Win ss ws) : Win ws ws := ⟨h.asc, fun _ => Iff.rfl, Nat.le_refl _⟩

/-- The world and the awards so far, in the loops of the law. -/
def Shuf (W : World) (v : Value) (T : List S) (wr : World) : Prop := AwOwn W.heap.size wr v T ∧ Below W.heap.size W wr

theorem lg_step {ss : List S} {k : Nat} {lo hi x : S} {b1 b2 : Bool} (h : LG ss k lo hi) (hk : k < ss.length) (hx : ss.getD k [] = x) (h1 : Op.bytesLess x lo = b1) (h2 : Op.bytesLess hi x = b2) :
    LG ss (k + 1) (if b1 then x else lo) (if b2 then x else hi) := by
  have := h.step hk
  rw [hx] at this
  rw [bytesLess_eq] at h1 h2
  subst h1 h2
  simpa using this

theorem shuf_mem {ss T : List S} {q : Nat} (h : T = ss.drop q ++ ss.take q ++ (ss.drop 0).reverse) : ∀ x, x ∈ T ↔ x ∈ ss := by
  intro x
  subst h
  simp only [List.mem_append, List.drop_zero, List.mem_reverse]
  constructor
  · rintro ((h | h) | h)
    · exact List.mem_of_mem_drop h
    · exact List.mem_of_mem_take h
    · exact h
  · exact Or.inr

set_option maxHeartbeats 4000000 in
set_option maxRecDepth 100000 in
theorem lawB_walk (tid : ByteArray) (m x1 x2 x3 : Int) (a a1 a2 : Option Addr) (ss : List S) (c n1 c1 n2 c2 : Nat) (k : Int) (w : World) (ht : tid.size ≤ maxLen) (hn : ss.length ≤ maxLen) (hn1 : n1 ≤ maxLen) (hn2 : n2 ≤ maxLen)
    (hs : StrRow w a ss) (hs1 : IntRow w a1 n1) (hs2 : IntRow w a2 n2) :
    Calls Try.prog 4 #[.string tid, .int .i64 m, .int .i64 x1, .int .i64 x2, .int .i64 x3, .slice a ss.length c, .slice a1 n1 c1, .slice a2 n2 c2, .int .i64 k] w (Yes w) := by
  go_enter Try.func4, Try.ntmps4
  go_wp2_with fail
  refine (bytesB_any tid m x1 x2 x3 a a1 a2 ss c n1 c1 n2 c2 k w ht hn hn1 hn2 hs).mono ?_
  rintro e w' ⟨r, rfl, rfl, _⟩
  cases r
  · go_wp2_with fail
    go_ret
    exact ⟨rfl, below_refl _⟩
  go_wp2_with fail
  refine (tooBig_any tid a a1 a2 ss c n1 c1 n2 c2 _ ht hn hn1 hn2 hs).mono ?_
  rintro e w' ⟨r, rfl, rfl, hr⟩
  cases r
  rotate_left
  · go_wp2_with fail
    go_ret
    exact ⟨rfl, below_refl _⟩
  have hns := hr rfl
  clear hr hn
  by_cases hk0 : k < 0
  · go_wp2_with fail
    go_ret
    exact ⟨rfl, below_refl _⟩
  by_cases hkn : (ss.length : Int) < k
  · go_wp2_with fail
    go_ret
    exact ⟨rfl, below_refl _⟩
  obtain ⟨q, rfl⟩ : ∃ q : Nat, k = q := ⟨k.toNat, by omega⟩
  have hq : q ≤ ss.length := by omega
  clear hk0
  go_wp2_with fail
  refine (build_any tid m x1 x2 x3 0 _ 0 ss.length a a1 a2 ss c n1 c1 n2 c2 _ hns hn1 hn2 hs hs1 hs2 rfl rfl (Nat.zero_le _) (Nat.le_refl _) ss (by simp)).mono ?_
  rintro e w1 ⟨d0, d1, d2, d3, d4, d5, d6, d7, d8, d10, b, cb, rfl, hA1, hb1⟩
  go_wp2_with fail
  refine (winners_any d0 d1 d2 d3 d4 d5 d6 d7 d8 d10 b cb ss w1 (by omega) hA1).mono ?_
  intro e w2 hwon
  obtain ⟨ws, aw, cw, rfl, hr2, hb2, hwin⟩ := won_open hwon
  have hbB := below_trans hb1 hb2
  have hsB := hs.below hbB
  have hl3 : ws.length ≤ ss.length := hwin.len
  clear hwon hA1 hb1 hb2 hs hs1 hs2 hkn
  go_wp2_with (at_make; go_must (refine wpList_makeAw (B := w2.heap.size) (n := 2 * ss.length) rfl _ _ rfl rfl rfl (by simp) (by omega) (Nat.le_refl _) ?_); intro v1 w3 hown hb3)
  go_loopw [21, 22] (fun v i wr => ∃ (k : Nat) (T : List S), q ≤ k ∧ k ≤ ss.length ∧ i = .int .i64 k ∧ Shuf w2 v T wr ∧ Hid (T = (ss.take k).drop q)) (fun _ i _ => ss.length - (intOf i).toNat)
  case atStart => exact ⟨q, [], Nat.le_refl _, hq, rfl, ⟨hown, hb3⟩, by show [] = _; simp⟩
  case round =>
    clear hown hb3
    obtain ⟨k, T, hqk, hkn, rfl, ⟨hown, hnx⟩, HT⟩ := hrel
    by_cases hlt : k < ss.length
    · obtain ⟨b, off, rfl, hb, hc⟩ := hsB k hlt
      have h1 := (hnx.cell (p := ⟨b, off + k, none⟩) hb).trans (hc k hlt)
      obtain ⟨s, hse⟩ : ∃ s, ss.getD k [] = s := ⟨_, rfl⟩
      rw [hse] at h1
      have HS : Hid (ss.getD k [] = s) := hse
      have hlT : T.length ≤ 1048576 := by rw [HT.out, mid_len (by omega)]; omega
      clear hse hc hsB hwin hr2
      go_wp2_with (at_builtin; go_must (refine wpList_pushAw (B := w2.heap.size) (ss := T) rfl _ _ rfl rfl rfl (by rfl) (by exact hnx.size) hlT (by exact hown) ?_); intro v' w' hown' hb')
      go_roundw
      case rel => exact ⟨k + 1, T ++ [s], by omega, by omega, by go_num, ⟨hown', hnx.trans hb'⟩, hid (by rw [mid_snoc hqk hlt, HS.out, HT.out])⟩
      case measure => simp [intOf]; omega
    · obtain rfl : k = ss.length := by omega
      have HT' : Hid (T = ss.drop q) := hid (by have := HT.out; simpa using this)
      clear HT hlt hkn hqk
      go_wp2_with fail
      go_loopw [21, 23] (fun v i wr => ∃ (k : Nat) (T : List S), k ≤ q ∧ i = .int .i64 k ∧ Shuf w2 v T wr ∧ Hid (T = ss.drop q ++ ss.take k)) (fun _ i _ => q - (intOf i).toNat)
      case atStart => exact ⟨0, T, Nat.zero_le _, rfl, ⟨hown, hnx⟩, hid (by rw [HT'.out]; simp)⟩
      case round =>
        clear hown hnx HT'
        obtain ⟨k, T, hkq, rfl, ⟨hown, hnx⟩, HT⟩ := hrel
        by_cases hlt : k < q
        · have hks : k < ss.length := by omega
          obtain ⟨b, off, rfl, hb, hc⟩ := hsB k hks
          have h1 := (hnx.cell (p := ⟨b, off + k, none⟩) hb).trans (hc k hks)
          obtain ⟨s, hse⟩ : ∃ s, ss.getD k [] = s := ⟨_, rfl⟩
          rw [hse] at h1
          have HS : Hid (ss.getD k [] = s) := hse
          have hlT : T.length ≤ 1048576 := by rw [HT.out]; simp; omega
          clear hse hc hsB hwin hr2
          go_wp2_with (at_builtin; go_must (refine wpList_pushAw (B := w2.heap.size) (ss := T) rfl _ _ rfl rfl rfl (by rfl) (by exact hnx.size) hlT (by exact hown) ?_); intro v' w' hown' hb')
          go_roundw
          case rel => exact ⟨k + 1, T ++ [s], by omega, by go_num, ⟨hown', hnx.trans hb'⟩, hid (by rw [take_snoc hks, HS.out, HT.out, List.append_assoc])⟩
          case measure => simp [intOf]; omega
        · obtain rfl : k = q := by omega
          clear hlt hkq
          go_wp2_with fail
          go_loopw [21, 24] (fun v i wr => ∃ (j : Nat) (T : List S), j ≤ ss.length ∧ i = .int .i64 ((j : Int) - 1) ∧ Shuf w2 v T wr ∧ Hid (T = ss.drop k ++ ss.take k ++ (ss.drop j).reverse)) (fun _ i _ => (intOf i + 1).toNat)
          case atStart => exact ⟨ss.length, T, Nat.le_refl _, rfl, ⟨hown, hnx⟩, hid (by rw [HT.out]; simp)⟩
          case round =>
            clear hown hnx HT
            obtain ⟨j, T, hj, rfl, ⟨hown, hnx⟩, HT⟩ := hrel
            by_cases hlt : 0 < j
            · obtain ⟨t, rfl⟩ : ∃ t, j = t + 1 := ⟨j - 1, by omega⟩
              have hts : t < ss.length := by omega
              obtain ⟨b, off, rfl, hb, hc⟩ := hsB t hts
              have h1 := (hnx.cell (p := ⟨b, off + t, none⟩) hb).trans (hc t hts)
              obtain ⟨s, hse⟩ : ∃ s, ss.getD t [] = s := ⟨_, rfl⟩
              rw [hse] at h1
              have HS : Hid (ss.getD t [] = s) := hse
              have hlT : T.length ≤ 1048576 := by rw [HT.out]; simp; omega
              clear hse hc hsB hwin hr2
              go_wp2_with (at_builtin; go_must (refine wpList_pushAw (B := w2.heap.size) (ss := T) rfl _ _ rfl rfl rfl (by rfl) (by exact hnx.size) hlT (by exact hown) ?_); intro v' w' hown' hb')
              go_roundw
              case rel => exact ⟨t, T ++ [s], by omega, by go_num, ⟨hown', hnx.trans hb'⟩, hid (by rw [drop_cons hts, HS.out, HT.out]; simp)⟩
              case measure => simp [intOf]
            · obtain rfl : j = 0 := by omega
              have hmT : ∀ x, x ∈ T ↔ x ∈ ss := shuf_mem HT.out
              have hlT : T.length ≤ 1048576 := by rw [HT.out]; simp; omega
              obtain ⟨aa, cc, hv, hrow⟩ := hown.row
              have HM : Hid (∀ x, x ∈ T ↔ x ∈ ss) := hmT
              clear hown HT hlt hj hmT
              subst hv
              go_wp2_with fail
              refine (winners_any _ _ _ _ _ _ _ _ _ _ aa cc T wr hlT hrow).mono ?_
              intro e w4 hwon
              obtain ⟨ws2, aw2, cw2, rfl, hr4, hb4, hwin2⟩ := won_open hwon
              have hb24 := below_trans hnx hb4
              have hr2' := hr2.below hb24
              have hB4 := below_trans hbB hb24
              have hs4 := hsB.below hb24
              have heq : ws2 = ws := hwin2.same hwin HM.out
              clear hwon hrow hnx hb4 hr2 hbB hb24 hsB HM hwin2 hlT
              subst heq
              go_wp2_with fail
              refine (same_any aw aw2 ws2 cw cw2 w4 (by omega) hr2' hr4).mono ?_
              rintro e w5 ⟨rfl, nq, rfl⟩
              obtain ⟨w5, hw5⟩ : ∃ w5 : World, w5 = w4.drewN nq := ⟨_, rfl⟩
              have hb45 : Below w4.heap.size w4 w5 := by rw [hw5]; exact below_drewN w4 nq
              have hr5 := hr2'.below hb45
              have hB5 := below_trans hB4 hb45
              have hs5 := hs4.below hb45
              rw [← hw5]
              clear hw5 hb45 hr2' hr4 hB4 hs4
              go_wp2_with (at_make; go_must (refine wpList_makeAw (B := w5.heap.size) (n := ws2.length) rfl _ _ rfl rfl rfl rfl (by omega) (Nat.le_refl _) ?_); intro v1 w6 hown hb6)
              go_loopw [26, 27] (fun v i wr => ∃ (k : Nat) (T : List S), k ≤ ws2.length ∧ i = .int .i64 k ∧ Shuf w5 v T wr ∧ Hid (T = ws2.take k)) (fun _ i _ => ws2.length - (intOf i).toNat)
              case atStart => exact ⟨0, [], Nat.zero_le _, rfl, ⟨hown, hb6⟩, rfl⟩
              case round =>
                clear hown hb6
                obtain ⟨k2, T, hkw, rfl, ⟨hown, hnx⟩, HT⟩ := hrel
                by_cases hlt : k2 < ws2.length
                · obtain ⟨b, off, rfl, hb, hc⟩ := hr5 k2 hlt
                  have h1 := (hnx.cell (p := ⟨b, off + k2, none⟩) hb).trans (hc k2 hlt)
                  obtain ⟨s, hse⟩ : ∃ s, ws2.getD k2 [] = s := ⟨_, rfl⟩
                  rw [hse] at h1
                  have HS : Hid (ws2.getD k2 [] = s) := hse
                  have hlT : T.length ≤ 1048576 := by rw [HT.out]; simp; omega
                  clear hse hc hs5 hwin hr5
                  go_wp2_with (at_builtin; go_must (refine wpList_pushAw (B := w5.heap.size) (ss := T) rfl _ _ rfl rfl rfl (by rfl) (by exact hnx.size) hlT (by exact hown) ?_); intro v' w' hown' hb')
                  go_roundw
                  case rel => exact ⟨k2 + 1, T ++ [s], by omega, by go_num, ⟨hown', hnx.trans hb'⟩, hid (by rw [take_snoc hlt, HS.out, HT.out])⟩
                  case measure => simp [intOf]; omega
                · obtain rfl : k2 = ws2.length := by omega
                  have hTe : T = ws2 := by rw [HT.out]; simp
                  subst hTe
                  obtain ⟨aa2, cc2, hv, hrow⟩ := hown.row
                  clear hown HT hlt hkw
                  subst hv
                  go_wp2_with fail
                  refine (winners_any _ _ _ _ _ _ _ _ _ _ aa2 cc2 T wr (by omega) hrow).mono ?_
                  intro e w7 hwon
                  obtain ⟨ws3, aw3, cw3, rfl, hr7, hb7, hwin3⟩ := won_open hwon
                  have hb57 := below_trans hnx hb7
                  have hr5' := hr5.below hb57
                  have hB7 := below_trans hB5 hb57
                  have hs7 := hs5.below hb57
                  have heq : ws3 = T := hwin3.same hwin.self (fun _ => Iff.rfl)
                  clear hwon hrow hnx hb7 hr5 hB5 hb57 hs5 hwin3
                  subst heq
                  go_wp2_with fail
                  refine (same_any aw aw3 ws3 cw cw3 w7 (by omega) hr5' hr7).mono ?_
                  rintro e w8 ⟨rfl, nq2, rfl⟩
                  obtain ⟨w8, hw8⟩ : ∃ w8 : World, w8 = w7.drewN nq2 := ⟨_, rfl⟩
                  have hb78 : Below w7.heap.size w7 w8 := by rw [hw8]; exact below_drewN w7 nq2
                  have hr8 := hr5'.below hb78
                  have hB8 := below_trans hB7 hb78
                  have hs8 := hs7.below hb78
                  rw [← hw8]
                  clear hw8 hb78 hr5' hr7 hB7 hs7
                  by_cases hz : ss.length = 0
                  · have hz2 : ws3.length = 0 := by omega
                    have e1 : ((ss.length : Int) == 0) = true := by simp [hz]
                    have e2 : ((ws3.length : Int) == 0) = true := by simp [hz2]
                    clear hz hz2 hr8 hs8
                    go_wp2_with fail
                    go_ret
                    exact ⟨rfl, hB8⟩
                  · have e1 : ((ss.length : Int) == 0) = false := beq_eq_false_iff_ne.2 (by omega)
                    have hpos : 0 < ss.length := by omega
                    obtain ⟨b, off, rfl, hb, hc⟩ := hs8 0 hpos
                    have h1 := hc 0 hpos
                    obtain ⟨s, hse⟩ : ∃ s, ss.getD 0 [] = s := ⟨_, rfl⟩
                    rw [hse, Nat.add_zero] at h1
                    have hst : Hid (LG ss 1 s s) := by rw [← hse]; exact LG.start hpos
                    clear hse hz hs8
                    have HC : Hid (∀ t, t < ss.length → w8.cell? ⟨b, off + t, none⟩ = some (.string ⟨(ss.getD t []).toArray⟩)) := hc
                    clear hc
                    go_wp2_with fail
                    go_loop [29, 30, 31] (fun l g i => ∃ (k : Nat) (lo hi : S), 1 ≤ k ∧ k ≤ ss.length ∧ i = .int .i64 k ∧ l = enc lo ∧ g = enc hi ∧ Hid (LG ss k lo hi)) (fun _ _ i => ss.length - (intOf i).toNat)
                    case atStart => exact ⟨1, s, s, Nat.le_refl _, hpos, rfl, rfl, rfl, hst⟩
                    case round =>
                      clear hst h1
                      obtain ⟨k3, lo, hi, hk1, hkl, rfl, rfl, rfl, hLG⟩ := hrel
                      by_cases hlt : k3 < ss.length
                      · have h1 := HC.out k3 hlt
                        obtain ⟨x, hx⟩ : ∃ x, ss.getD k3 [] = x := ⟨_, rfl⟩
                        rw [hx] at h1
                        have HX : Hid (ss.getD k3 [] = x) := hx
                        clear hx hr8 hwin
                        cases hx1 : Op.bytesLess x lo <;> cases hx2 : Op.bytesLess hi x
                        all_goals
                          go_wp2_with fail
                          go_round
                          case rel => exact ⟨k3 + 1, _, _, by omega, by omega, by go_num, rfl, rfl, hid (by have := lg_step hLG.out hlt HX.out hx1 hx2; simpa using this)⟩
                          case measure => simp [intOf]; omega
                      · obtain ⟨hw1, hw2, hw3⟩ := hLG.out.ends (by omega) hwin.asc hwin.mem
                        obtain ⟨bw, offw, rfl, hbw, hcw⟩ := hr8 0 (by omega)
                        have h2 := hcw 0 (by omega)
                        have h3 := hcw (ws3.length - 1) (by omega)
                        rw [hw2, Nat.add_zero] at h2
                        rw [hw3] at h3
                        clear hcw hr8 hw2 hw3 hwin hLG HC
                        go_wp2_with fail
                        go_ret
                        exact ⟨rfl, hB8⟩
end Go.Proofs.Qxb6628504a
