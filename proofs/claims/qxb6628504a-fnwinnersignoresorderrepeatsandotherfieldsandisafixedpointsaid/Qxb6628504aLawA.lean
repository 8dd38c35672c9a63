import Derived.Test.Qxb6628504aWalkA
import Derived.Test.Qxb6628504aWalkC
import Derived.Test.Qxb6628504aWalkD
import Derived.Test.Qxb6628504aWalkE
import Derived.Test.Qxb6628504aWalkF
namespace Go.Proofs.Qxb6628504a
open Go.RowKit

theorem below_refl (w : World) : Below w.heap.size w w := Below.refl _ _

/-- Winners' answer, opened. -/
theorem won_open {w w' : World} {ss : List S} {e : Ending} (h : Won w ss e w') : ∃ ws a c, e = .returned (.slice a ws.length c) ∧ StrRow w' a ws ∧ Below w.heap.size w w' ∧ Win ss ws := by
  obtain ⟨ws, v, rfl, hown, hb, hw⟩ := h
  obtain ⟨a, c, rfl, hr⟩ := row_of_owns hown
  exact ⟨ws, a, c, rfl, hr, hb, hw⟩
theorem merged_open {w w' : World} {sa sb : List S} {e : Ending} (h : Merged w sa sb e w') : ∃ out a c, e = .returned (.slice a out.length c) ∧ StrRow w' a out ∧ Below w.heap.size w w' ∧ MInv sa sb sa.length sb.length out := by
  obtain ⟨ws, v, rfl, hown, hb, hw⟩ := h
  obtain ⟨a, c, rfl, hr⟩ := row_of_owns hown
  exact ⟨ws, a, c, rfl, hr, hb, hw⟩

theorem joined {ss ws wl wr out : List S} {q : Nat} (h : Win ss ws) (hl : Win (ss.take q) wl) (hr : Win (ss.drop q) wr) (hM : MInv wl wr wl.length wr.length out) : out = ws := by
  obtain ⟨h1, h2⟩ := hM.done (Nat.le_refl _) (Nat.le_refl _)
  refine asc_ext h1 h.asc fun x => ?_
  rw [h2, hl.mem, hr.mem, h.mem, ← List.mem_append, List.take_append_drop]

set_option maxHeartbeats 2000000 in
set_option maxRecDepth 100000 in
theorem lawA_walk (tid : ByteArray) (m x1 x2 x3 : Int) (a a1 a2 : Option Addr) (ss : List S) (c n1 c1 n2 c2 : Nat) (k : Int) (w : World) (ht : tid.size ≤ maxLen) (hn : ss.length ≤ maxLen) (hn1 : n1 ≤ maxLen) (hn2 : n2 ≤ maxLen)
    (hs : StrRow w a ss) (hs1 : IntRow w a1 n1) (hs2 : IntRow w a2 n2) :
    Calls Try.prog 3 #[.string tid, .int .i64 m, .int .i64 x1, .int .i64 x2, .int .i64 x3, .slice a ss.length c, .slice a1 n1 c1, .slice a2 n2 c2, .int .i64 k] w (Yes w) := by
  go_enter Try.func3, Try.ntmps3
  go_wp2_with fail
  refine (bytesA_any tid m x1 x2 x3 a a1 a2 ss c n1 c1 n2 c2 k w ht hn hn1 hn2 hs).mono ?_
  rintro e w' ⟨r, rfl, rfl, _⟩
  cases r
  · go_wp2_with fail
    go_ret
    exact ⟨rfl, below_refl _⟩
  go_wp2_with fail
  refine (tooBig_any tid a a1 a2 ss c n1 c1 n2 c2 _ ht hn hn1 hn2 hs).mono ?_
  rintro e w' ⟨r, rfl, rfl, hr⟩
  cases r
  rotate_left
  · go_wp2_with fail
    go_ret
    exact ⟨rfl, below_refl _⟩
  have hns := hr rfl
  clear hr hn
  by_cases hk0 : k < 0
  · go_wp2_with fail
    go_ret
    exact ⟨rfl, below_refl _⟩
  by_cases hkn : (ss.length : Int) < k
  · go_wp2_with fail
    go_ret
    exact ⟨rfl, below_refl _⟩
  obtain ⟨q, rfl⟩ : ∃ q : Nat, k = q := ⟨k.toNat, by omega⟩
  have hq : q ≤ ss.length := by omega
  clear hk0
  obtain ⟨T1, hT1⟩ : ∃ T : List S, T = ss.take q := ⟨_, rfl⟩
  obtain ⟨T2, hT2⟩ : ∃ T : List S, T = ss.drop q := ⟨_, rfl⟩
  have hlT1 : T1.length ≤ ss.length := by rw [hT1]; simp; omega
  have hlT2 : T2.length ≤ ss.length := by rw [hT2]; simp
  have HT1 : Hid (T1 = ss.take q) := hT1
  have HT2 : Hid (T2 = ss.drop q) := hT2
  clear hT1 hT2
  go_wp2_with fail
  refine (build_any tid m x1 x2 x3 0 _ 0 ss.length a a1 a2 ss c n1 c1 n2 c2 _ hns hn1 hn2 hs hs1 hs2 rfl rfl (Nat.zero_le _) (Nat.le_refl _) ss (by simp)).mono ?_
  rintro e w1 ⟨d0, d1, d2, d3, d4, d5, d6, d7, d8, d10, b, cb, rfl, hA1, hb1⟩
  go_wp2_with fail
  refine (winners_any d0 d1 d2 d3 d4 d5 d6 d7 d8 d10 b cb ss w1 (by omega) hA1).mono ?_
  intro e w2 hwon
  obtain ⟨ws, aw, cw, rfl, hr2, hb2, hwin⟩ := won_open hwon
  have hbB := below_trans hb1 hb2
  clear hwon hA1 hb1 hb2
  go_wp2_with fail
  refine (build_any tid m x1 x2 x3 0 _ 0 q a a1 a2 ss c n1 c1 n2 c2 _ hns hn1 hn2 (hs.below hbB) (hs1.below hbB) (hs2.below hbB) rfl rfl (Nat.zero_le _) hq T1 (by rw [HT1.out]; simp)).mono ?_
  rintro e w3 ⟨d0, d1, d2, d3, d4, d5, d6, d7, d8, d10, b, cb, rfl, hA1, hb1⟩
  go_wp2_with fail
  refine (winners_any d0 d1 d2 d3 d4 d5 d6 d7 d8 d10 b cb T1 w3 (by omega) hA1).mono ?_
  intro e w4 hwon
  obtain ⟨wl, al, cl, rfl, hr4, hb2, hwinl⟩ := won_open hwon
  have hb24 := below_trans hb1 hb2
  have hbB4 := below_trans hbB hb24
  have hr2' := hr2.below hb24
  clear hwon hA1 hb1 hb2 hr2 hbB hb24
  go_wp2_with fail
  refine (build_any tid m x1 x2 x3 _ _ q ss.length a a1 a2 ss c n1 c1 n2 c2 _ hns hn1 hn2 (hs.below hbB4) (hs1.below hbB4) (hs2.below hbB4) rfl rfl hq (Nat.le_refl _) T2 (by rw [HT2.out]; simp)).mono ?_
  rintro e w5 ⟨d0, d1, d2, d3, d4, d5, d6, d7, d8, d10, b, cb, rfl, hA1, hb1⟩
  go_wp2_with fail
  refine (winners_any d0 d1 d2 d3 d4 d5 d6 d7 d8 d10 b cb T2 w5 (by omega) hA1).mono ?_
  intro e w6 hwon
  obtain ⟨wr, ar, cr, rfl, hr6, hb2, hwinr⟩ := won_open hwon
  have hb46 := below_trans hb1 hb2
  have hbB6 := below_trans hbB4 hb46
  have hr2 := hr2'.below hb46
  have hrl := hr4.below hb46
  clear hwon hA1 hb1 hb2 hr2' hbB4 hb46 hr4
  have hl1 : wl.length ≤ ss.length := Nat.le_trans hwinl.len hlT1
  have hl2 : wr.length ≤ ss.length := Nat.le_trans hwinr.len hlT2
  have hl3 : ws.length ≤ ss.length := hwin.len
  go_wp2_with fail
  refine (merge_any al ar wl wr cl cr w6 (by omega) (by omega) hrl hr6 hwinl.asc hwinr.asc).mono ?_
  intro e w7 hmrg
  obtain ⟨out, ao, co, rfl, hro, hb67, hM⟩ := merged_open hmrg
  have hbB7 := below_trans hbB6 hb67
  have hr2' := hr2.below hb67
  have heq : out = ws := joined hwin (HT1.out ▸ hwinl) (HT2.out ▸ hwinr) hM
  clear hM hmrg hr2 hrl hr6 hbB6 hb67
  subst heq
  go_wp2_with fail
  refine (same_any aw ao out cw co w7 (by omega) hr2' hro).mono ?_
  rintro e w8 ⟨rfl, nq, rfl⟩
  have hb78 := below_drewN w7 nq
  have hbB8 := below_trans hbB7 hb78
  have hr8 := hr2'.below hb78
  clear hbB7 hb78 hr2' hro
  go_wp2_with fail
  refine (distinct_any aw a out ss cw c _ hns hl3 hr8 (hs.below hbB8) hwin.asc hwin.mem).mono ?_
  rintro e w9 ⟨rfl, hb9⟩
  go_wp2_with fail
  go_ret
  exact ⟨rfl, below_trans hbB8 hb9⟩
end Go.Proofs.Qxb6628504a
