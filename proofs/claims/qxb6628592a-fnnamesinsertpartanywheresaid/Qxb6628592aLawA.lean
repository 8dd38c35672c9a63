import Derived.Test.Qxb6628592aWalkA
import Derived.Test.Qxb6628592aWalkE
import Derived.Test.Qxb6628592aWalkF
import Derived.Test.Qxb6628592aWalkG
namespace Go.Proofs.Qxb6628592a
open Go.RowKit

theorem row_of_owns {B : Nat} {w : World} {v : Value} {out : List S} (h : w.ownsRow B 9 1 v out.length (out.map enc)) : ∃ a c, v = .slice a out.length c ∧ StrRow w a out := by
  rcases h.2 with ⟨rfl, h0⟩ | ⟨g, cap, cur, rfl, hb, hg, h1, h2, h3, h4⟩
  · exact ⟨none, 0, by rw [h0], fun j hj => absurd hj (by omega)⟩
  · exact ⟨_, cap, rfl, row_owned h⟩
theorem named_open {w w' : World} {N : List S} {e : Ending} (h : Named w N e w') : ∃ a c, e = .returned (.slice a N.length c) ∧ StrRow w' a N ∧ Below w.heap.size w w' := by
  obtain ⟨v, rfl, hown, hb⟩ := h
  obtain ⟨a, c, rfl, hr⟩ := row_of_owns hown
  exact ⟨a, c, rfl, hr, hb⟩

/-- What the bound on bytes gives. -/
theorem wt_bounds : ∀ ps : List PartV, 64 * ps.length + 16 * (flat ps).length = wt ps
  | [] => rfl
  | p :: ps => by
    have := wt_bounds ps
    have e1 : wt (p :: ps) = 64 + 16 * p.names.length + wt ps := by simp [wt]
    have e2 : (flat (p :: ps)).length = p.names.length + (flat ps).length := by simp [flat]
    rw [e1, e2, ← this]; simp; omega
theorem flat_of_names {ps qs : List PartV} (h : qs.map (·.names) = ps.map (·.names)) : flat qs = flat ps := by
  unfold flat
  rw [List.flatMap_def, List.flatMap_def, h]
theorem len_of_names {ps qs : List PartV} (h : qs.map (·.names) = ps.map (·.names)) : qs.length = ps.length := by
  have := congrArg List.length h
  simpa using this
theorem names_le {ps : List PartV} (t : Nat) (p : PartV) (h : ps[t]? = some p) : p.names.length ≤ (flat ps).length := by
  have h1 := flat_snoc h
  have h2 := flat_len_take ps (t + 1)
  rw [h1] at h2
  simp at h2; omega

/-- A stretch of a row. -/
theorem pRow_mid {w : World} {b off : Nat} {ps : List PartV} {l h : Nat} (hb : b < w.heap.size) (hc : ∀ t p, ps[t]? = some p → PartAt w b (off + t * 7) p ∧ p.Ok w) : PRow w (some ⟨b, off + l * 7, none⟩) ((ps.take h).drop l) := fun j _ => by
  refine ⟨b, off + l * 7, rfl, hb, fun t p ht => ?_⟩
  rw [List.getElem?_drop] at ht
  have hlt : l + t < h := by
    rcases Nat.lt_or_ge (l + t) h with h1 | h1
    · exact h1
    · rw [List.getElem?_eq_none (by simp; omega)] at ht; cases ht
  rw [List.getElem?_take, if_pos hlt] at ht
  have := hc (l + t) p ht
  rw [show off + (l + t) * 7 = off + l * 7 + t * 7 by omega] at this
  exact this

theorem build_len (a : Option Addr) (c n : Nat) (ps : List PartV) (w : World) (hn : n = ps.length) (hp : PRow w a ps) (hl : ps.length ≤ 65537) : Calls Try.prog 9 #[.slice a n c] w (BuiltT w ps) := by
  subst hn
  exact build_any a c ps w hp hl
theorem count_len (a : Option Addr) (c n : Nat) (ps : List PartV) (lo hi : Int) (l h : Nat) (w : World) (hpn : n = ps.length) (hp : PRow w a ps) (hlo : lo = l) (hhi : hi = h) (hlh : l ≤ h) (hh : h ≤ ps.length) (hn : ps.length ≤ 65537) (hf : (flat ps).length ≤ 1048576) (r : Nat) (hr : r = (flat ((ps.take h).drop l)).length) : Calls Try.prog 11 #[.slice a n c, .int .i64 lo, .int .i64 hi] w (Tells w (.int .i64 r)) := by
  subst hpn
  exact count_any a c ps lo hi l h w hp hlo hhi hlh hh hn hf r hr
theorem flat_append (xs ys : List PartV) : flat (xs ++ ys) = flat xs ++ flat ys := by unfold flat; rw [List.flatMap_append]
theorem stands_self (A : List S) : Stands A A 0 := ⟨by simp, fun i _ => by simp⟩
theorem stands_left (A B : List S) : Stands (A ++ B) A 0 := by have := stands_mid [] A B; simpa using this
theorem stands_right (A B : List S) : Stands (A ++ B) B A.length := by have := stands_mid A B []; simpa using this

set_option maxHeartbeats 8000000 in
set_option maxRecDepth 100000 in
theorem lawA_walk (a : Option Addr) (c : Nat) (ps : List PartV) (k : Int) (w : World) (hn : ps.length ≤ maxLen) (hp : PRow w a ps) (hnil : a = none → ps.length = 0) :
    Calls Try.prog 3 #[.slice a ps.length c, .int .i64 k] w (Yes w) := by
  go_enter Try.func3, Try.ntmps3
  go_wp2_with fail
  refine (bytesA_any a c ps k w hn hp).mono ?_
  rintro e w1 ⟨r, rfl, hb1⟩
  cases r
  · go_wp2_with fail
    go_ret
    exact ⟨rfl, hb1⟩
  go_wp2_with fail
  refine (partsBytes_any 0 a c ps w1 (by omega) (by omega) hn (hp.below hb1)).mono ?_
  rintro e w2 ⟨r, rfl, hb2, r0, r1, r2⟩
  have hB2 := below_trans hb1 hb2
  clear hb1 hb2 hn
  by_cases tr : 1048576 < r
  · go_wp2_with fail
    go_ret
    exact ⟨rfl, hB2⟩
  have hwt : wt ps ≤ 1048576 := by have := r2 (by omega); omega
  have hbd := wt_bounds ps
  have hpl : ps.length ≤ 16384 := by omega
  have hfl : (flat ps).length ≤ 65536 := by omega
  clear r2 hwt hbd r0 r1
  by_cases hk0 : k < 0
  · go_wp2_with fail
    go_ret
    exact ⟨rfl, hB2⟩
  by_cases hkn : (ps.length : Int) < k
  · go_wp2_with fail
    go_ret
    exact ⟨rfl, hB2⟩
  obtain ⟨q, rfl⟩ : ∃ q : Nat, k = q := ⟨k.toNat, by omega⟩
  have hq : q ≤ ps.length := by omega
  clear hk0 hkn
  go_wp2_with fail
  refine (allReach_any a c ps w2 (by unfold maxLen; omega) (hp.below hB2)).mono ?_
  rintro e w3 ⟨r', rfl, hb3⟩
  have hB3 := below_trans hB2 hb3
  cases r'
  · go_wp2_with fail
    go_ret
    exact ⟨rfl, hB3⟩
  go_wp2_with fail
  refine (cloneParts_any a c ps w3 (hp.below hB3) (by omega) (fun t p h => Nat.le_trans (names_le t p h) (by omega)) hnil).mono ?_
  rintro e w4 ⟨a', c', qs, rfl, hnm, hp4, hb4, hform, _⟩
  have hB4 := below_trans hB3 hb4
  have hql := len_of_names hnm
  have hqf := flat_of_names hnm
  have hfl' : (flat qs).length ≤ 65536 := by rw [hqf]; exact hfl
  have HQL : Hid (ps.length = qs.length) := hid hql.symm
  have hql2 : qs.length ≤ 16384 := by omega
  clear hb3 hb4 hB2 hB3 hp hnil hqf hnm hfl
  rcases hform with ⟨rfl, rfl, rfl⟩ | ⟨g, rfl, rfl, _⟩
  · have h0 : qs = [] := by simpa using hql
    subst h0
    have hq0 : q = 0 := by simpa using hq
    subst hq0
    clear hql HQL hql2 hpl hq tr hfl'
    go_wp2_with fail
    refine (build_any none 0 [] w4 (fun j hj => absurd hj (by simp)) (by simp)).mono ?_
    rintro e u5 ⟨t5, at5, ct5, rfl, hct5, hpt5, hbt5⟩
    go_wp2_with fail
    refine (names_any t5 at5 ct5 [] u5 hpt5 hct5 (by simp) (by simp [flat])).mono ?_
    intro e w5 hnd5
    have hnd5' : Named u5 [] e w5 := hnd5
    obtain ⟨an5, cn5, rfl, hrn5, hbn5⟩ := named_open hnd5'
    have hB5 := below_trans hB4 (below_trans hbt5 hbn5)
    clear hnd5 hnd5' hct5 hpt5 hbt5 hbn5 hrn5
    go_wp2_with fail
    refine (build_any none 0 [] w5 (fun j hj => absurd hj (by simp)) (by simp)).mono ?_
    rintro e u6 ⟨t6, at6, ct6, rfl, hct6, hpt6, hbt6⟩
    go_wp2_with fail
    refine (names_any t6 at6 ct6 [] u6 hpt6 hct6 (by simp) (by simp [flat])).mono ?_
    intro e w6 hnd6
    have hnd6' : Named u6 [] e w6 := hnd6
    obtain ⟨an6, cn6, rfl, hrn6, hbn6⟩ := named_open hnd6'
    have hB6 := below_trans hB5 (below_trans hbt6 hbn6)
    clear hnd6 hnd6' hct6 hpt6 hbt6 hbn6 hrn6
    go_wp2_with fail
    refine (build_any none 0 [] w6 (fun j hj => absurd hj (by simp)) (by simp)).mono ?_
    rintro e u7 ⟨t7, at7, ct7, rfl, hct7, hpt7, hbt7⟩
    go_wp2_with fail
    refine (names_any t7 at7 ct7 [] u7 hpt7 hct7 (by simp) (by simp [flat])).mono ?_
    intro e w7 hnd7
    have hnd7' : Named u7 [] e w7 := hnd7
    obtain ⟨an7, cn7, rfl, hrn7, hbn7⟩ := named_open hnd7'
    have hB7 := below_trans hB6 (below_trans hbt7 hbn7)
    clear hnd7 hnd7' hct7 hpt7 hbt7 hbn7 hrn7
    go_wp2_with fail
    refine (count_any none 0 [] 0 0 0 0 w7 (fun j hj => absurd hj (by simp)) rfl rfl (Nat.le_refl _) (by simp) (by simp) (by simp [flat]) 0 (by simp [flat])).mono ?_
    rintro e w8 ⟨rfl, m1, rfl⟩
    go_wp2_with fail
    refine (count_any none 0 [] 0 0 0 0 _ (fun j hj => absurd hj (by simp)) rfl rfl (Nat.le_refl _) (by simp) (by simp) (by simp [flat]) 0 (by simp [flat])).mono ?_
    rintro e w9 ⟨rfl, m2, rfl⟩
    go_wp2_with fail
    refine (sameAt_any an5 an6 [] [] cn5 cn6 0 0 _ rfl (by simp) (stands_self _) (StrRow.nil _ _) (StrRow.nil _ _)).mono ?_
    rintro e w10 ⟨rfl, m3, rfl⟩
    go_wp2_with fail
    refine (sameAt_any an5 an7 [] [] cn5 cn7 0 0 _ rfl (by simp) (stands_self _) (StrRow.nil _ _) (StrRow.nil _ _)).mono ?_
    rintro e w11 ⟨rfl, m4, rfl⟩
    go_wp2_with fail
    go_ret
    exact ⟨rfl, hB7.trans (by exact ⟨rfl, rfl, rfl, Nat.le_refl _, fun _ _ => rfl⟩)⟩
  · obtain ⟨Q1, hQ1⟩ : ∃ Q : List PartV, Q = qs.take q := ⟨_, rfl⟩
    obtain ⟨Q2, hQ2⟩ : ∃ Q : List PartV, Q = qs.drop q := ⟨_, rfl⟩
    obtain ⟨N, hN⟩ : ∃ N : List S, N = flat qs := ⟨_, rfl⟩
    obtain ⟨N1, hN1⟩ : ∃ N : List S, N = flat Q1 := ⟨_, rfl⟩
    obtain ⟨N2, hN2⟩ : ∃ N : List S, N = flat Q2 := ⟨_, rfl⟩
    have hQ1l : q = Q1.length := by rw [hQ1]; simp; omega
    have hQ2l : ps.length - q = Q2.length := by rw [hQ2]; simp; omega
    have hNN : N = N1 ++ N2 := by rw [hN, hN1, hN2, hQ1, hQ2, ← flat_append, List.take_append_drop]
    have hNl : N.length ≤ 65536 := by rw [hN]; exact hfl'
    have hNs : N.length = N1.length + N2.length := by rw [hNN]; simp
    have hN1l : N1.length ≤ 65536 := by omega
    have hN2l : N2.length ≤ 65536 := by omega
    have hc1 : N1.length = (flat ((qs.take q).drop 0)).length := by rw [hN1, hQ1]; simp
    have hc2 : N2.length = (flat ((qs.take qs.length).drop q)).length := by rw [hN2, hQ2]; simp
    have HQ1l : Hid (q = Q1.length) := hQ1l
    have HQ2l : Hid (ps.length - q = Q2.length) := hQ2l
    have HNN : Hid (N = N1 ++ N2) := hNN
    have HN : Hid (N = flat qs) := hN
    have HN1 : Hid (N1 = flat Q1) := hN1
    have HN2 : Hid (N2 = flat Q2) := hN2
    have HQ1 : Hid (Q1 = qs.take q) := hQ1
    have HQ2 : Hid (Q2 = qs.drop q) := hQ2
    have HC1 : Hid (N1.length = (flat ((qs.take q).drop 0)).length) := hc1
    have HC2 : Hid (N2.length = (flat ((qs.take qs.length).drop q)).length) := hc2
    have tN : ((N.length : Int) != (N1.length : Int) + (N2.length : Int)) = false := by rw [hNs]; simp
    have hrowsub : ∀ l h, PRow w4 (some ⟨g, 0 + l * 7, none⟩) ((qs.take h).drop l) := fun l h => by
      by_cases h0 : 0 < qs.length
      · obtain ⟨b, off, hx, hb, hc⟩ := hp4 0 h0
        cases hx
        exact pRow_mid hb hc
      · have : qs = [] := List.length_eq_zero_iff.1 (by omega)
        subst this
        exact fun j hj => absurd hj (by simp)
    have HSUB : Hid (∀ l h, PRow w4 (some ⟨g, 0 + l * 7, none⟩) ((qs.take h).drop l)) := hrowsub
    clear hQ1 hQ2 hN hN1 hN2 hQ1l hQ2l hNN hNs hc1 hc2 hrowsub hql hfl'
    go_wp2_with fail
    refine (build_len (some ⟨g, 0, none⟩) _ _ qs w4 HQL.out hp4 (by omega)).mono ?_
    rintro e u5 ⟨t5, at5, ct5, rfl, hct5, hpt5, hbt5⟩
    go_wp2_with fail
    refine (names_any t5 at5 ct5 qs u5 hpt5 hct5 (by omega) (by rw [← HN.out]; omega)).mono ?_
    intro e w5 hnd5
    rw [← HN.out] at hnd5
    obtain ⟨an5, cn5, rfl, hrn5, hbn5⟩ := named_open hnd5
    have hb45 := below_trans hbt5 hbn5
    have hB5 := below_trans hB4 hb45
    clear hnd5 hct5 hpt5 hbt5 hbn5
    have hP1 : PRow w4 (some ⟨g, 0, none⟩) Q1 := by rw [HQ1.out]; have := HSUB.out 0 q; simpa using this
    go_wp2_with fail
    refine (build_len (some ⟨g, 0, none⟩) _ _ Q1 w5 HQ1l.out (hP1.below hb45) (by rw [← HQ1l.out]; omega)).mono ?_
    rintro e u6 ⟨t6, at6, ct6, rfl, hct6, hpt6, hbt6⟩
    rw [← HQ1l.out] at hct6
    go_wp2_with fail
    rw [HQ1l.out] at hct6
    refine (names_any t6 at6 ct6 Q1 u6 hpt6 hct6 (by rw [← HQ1l.out]; omega) (by rw [← HN1.out]; omega)).mono ?_
    intro e w6 hnd6
    rw [← HN1.out] at hnd6
    obtain ⟨an6, cn6, rfl, hrn6, hbn6⟩ := named_open hnd6
    have hb56 := below_trans hbt6 hbn6
    have hb46 := below_trans hb45 hb56
    have hB6 := below_trans hB5 hb56
    have hrw6 := hrn5.below hb56
    clear hnd6 hct6 hpt6 hbt6 hbn6 hP1 hrn5 hb45 hb56 hB5
    by_cases hqn : q < ps.length
    · have hqne : ¬ ps.length = q := by omega
      have hP2 : PRow w4 (some ⟨g, q * 7, none⟩) Q2 := by
        rw [HQ2.out]; have := HSUB.out q qs.length; simpa using this
      go_wp2_with fail
      refine (build_len (some ⟨g, q * 7, none⟩) _ _ Q2 w6 HQ2l.out (hP2.below hb46) (by rw [← HQ2l.out]; omega)).mono ?_
      rintro e u7 ⟨t7, at7, ct7, rfl, hct7, hpt7, hbt7⟩
      go_wp2_with fail
      refine (names_any t7 at7 ct7 Q2 u7 hpt7 hct7 (by rw [← HQ2l.out]; omega) (by rw [← HN2.out]; omega)).mono ?_
      intro e w7 hnd7
      rw [← HN2.out] at hnd7
      obtain ⟨an7, cn7, rfl, hrn7, hbn7⟩ := named_open hnd7
      have hb67 := below_trans hbt7 hbn7
      have hb47 := below_trans hb46 hb67
      have hB7 := below_trans hB6 hb67
      have hrw7 := hrw6.below hb67
      have hrl7 := hrn6.below hb67
      clear hnd7 hct7 hpt7 hbt7 hbn7 hP2 hrw6 hrn6 hb46 hb67 hB6
      go_wp2_with fail
      refine (count_len (some ⟨g, 0, none⟩) _ _ qs 0 _ 0 q w7 HQL.out (hp4.below hb47) rfl rfl (Nat.zero_le _) (by rw [← HQL.out]; omega) (by omega) (by rw [← HN.out]; omega) N1.length HC1.out).mono ?_
      rintro e w8 ⟨rfl, m1, rfl⟩
      go_wp2_with fail
      refine (count_len (some ⟨g, 0, none⟩) _ _ qs _ _ q qs.length _ HQL.out ((hp4.below hb47).below (below_drewN _ _)) rfl (by rw [HQL.out]) (by rw [← HQL.out]; omega) (Nat.le_refl _) (by omega) (by rw [← HN.out]; omega) N2.length HC2.out).mono ?_
      rintro e w9 ⟨rfl, m2, rfl⟩
      go_wp2_with fail
      refine (sameAt_any an5 an6 N N1 cn5 cn6 0 0 _ rfl (by omega) (by rw [HNN.out]; exact stands_left _ _) (by exact hrw7) (by exact hrl7)).mono ?_
      rintro e w10 ⟨rfl, m3, rfl⟩
      go_wp2_with fail
      refine (sameAt_any an5 an7 N N2 cn5 cn7 _ N1.length _ rfl (by omega) (by rw [HNN.out]; exact stands_right _ _) (by exact hrw7) (by exact hrn7)).mono ?_
      rintro e w11 ⟨rfl, m4, rfl⟩
      obtain ⟨p, hpk⟩ : ∃ p, qs[q]? = some p := ⟨_, List.getElem?_eq_getElem (by rw [← HQL.out]; exact hqn)⟩
      have hone : (qs.take (q + 1)).drop q = [p] := by
        rw [List.take_add_one, hpk, List.drop_append_of_le_length (by simp; rw [← HQL.out]; omega)]
        simp
      have hP3 : PRow w4 (some ⟨g, q * 7, none⟩) [p] := by have := HSUB.out q (q + 1); rw [hone] at this; simpa using this
      have hflp : flat [p] = p.names := by simp [flat]
      have hN2p : N2 = p.names ++ flat (qs.drop (q + 1)) := by
        rw [HN2.out, HQ2.out]
        have : qs.drop q = p :: qs.drop (q + 1) := by
          rw [List.drop_eq_getElem_cons (by rw [← HQL.out]; exact hqn)]
          rw [List.getElem?_eq_getElem (by rw [← HQL.out]; exact hqn)] at hpk
          simp at hpk; rw [hpk]
        rw [this]; simp [flat]
      have hpl3 : p.names.length ≤ 65536 := by have := congrArg List.length hN2p; simp at this; omega
      have hBd : Below w4.heap.size w4 (w7.drewN (m1 + m2 + m3 + m4)) := hb47.trans (by exact ⟨rfl, rfl, rfl, Nat.le_refl _, fun _ _ => rfl⟩)
      have hP3' := hP3.below hBd
      obtain ⟨bq, oq, hbq, hltq, hcq⟩ := hp4 q (by rw [← HQL.out]; exact hqn)
      cases hbq
      obtain ⟨hatq, hokq⟩ := hcq q p hpk
      have c6 := hatq.h6
      rw [Nat.zero_add] at c6
      have hrowp := hokq.row
      have HN2P : Hid (N2 = p.names ++ flat (qs.drop (q + 1))) := hN2p
      obtain ⟨N3, hN3⟩ : ∃ N3, p.names = N3 := ⟨_, rfl⟩
      rw [hN3] at c6 hrowp hpl3
      have HN3 : Hid (p.names = N3) := hN3
      clear hN3 hN2p hone hP3 hcq hatq hpk HSUB
      go_wp2_with fail
      refine (build_len (some ⟨g, q * 7, none⟩) _ 1 [p] _ rfl hP3' (by simp)).mono ?_
      rintro e u8 ⟨t8, at8, ct8, rfl, hct8, hpt8, hbt8⟩
      go_wp2_with fail
      refine (names_any t8 at8 ct8 [p] u8 hpt8 hct8 (by simp) (by rw [hflp, HN3.out]; omega)).mono ?_
      intro e w8 hnd8
      rw [hflp, HN3.out] at hnd8
      obtain ⟨an8, cn8, rfl, hrn8, hbn8⟩ := named_open hnd8
      have hb78 := below_trans hbt8 hbn8
      have hb48 := below_trans hBd hb78
      have hB8 : Below w.heap.size w w8 := below_trans (hB7.trans (by exact ⟨rfl, rfl, rfl, Nat.le_refl _, fun _ _ => rfl⟩)) hb78
      have hr78 : StrRow w8 an7 N2 := StrRow.below (w := w7.drewN (m1 + m2 + m3 + m4)) (by exact hrn7) hb78
      have c6' := (hb48.cell (p := ⟨g, q * 7 + 6, none⟩) hltq).trans c6
      have hrowp' := hrowp.below hb48
      clear hnd8 hct8 hpt8 hbt8 hbn8 hP3' c6 hrowp hb78 hb48 hBd hB7 hrn7 hrw7 hrl7 hb47 hltq hokq
      go_wp2_with fail
      refine (sameAt_any an8 p.na N3 N3 cn8 p.nc 0 0 _ rfl (by omega) (stands_self _) hrn8 hrowp').mono ?_
      rintro e w9 ⟨rfl, m5, rfl⟩
      go_wp2_with fail
      refine (sameAt_any an7 an8 N2 N3 cn7 cn8 0 0 _ rfl (by omega) (by rw [HN2P.out, HN3.out]; exact stands_left _ _) (by exact hr78) (by exact hrn8)).mono ?_
      rintro e w10 ⟨rfl, m6, rfl⟩
      go_wp2_with fail
      go_ret
      exact ⟨rfl, hB8.trans (by exact ⟨rfl, rfl, rfl, Nat.le_refl _, fun _ _ => rfl⟩)⟩
    · have hqe : Q2.length = 0 := by rw [← HQ2l.out]; omega
      have hP2 : PRow w4 (some ⟨g, 0, none⟩) Q2 := fun j hj => absurd hj (by omega)
      clear hqe
      go_wp2_with fail
      refine (build_len (some ⟨g, 0, none⟩) _ _ Q2 w6 HQ2l.out (hP2.below hb46) (by rw [← HQ2l.out]; omega)).mono ?_
      rintro e u7 ⟨t7, at7, ct7, rfl, hct7, hpt7, hbt7⟩
      go_wp2_with fail
      refine (names_any t7 at7 ct7 Q2 u7 hpt7 hct7 (by rw [← HQ2l.out]; omega) (by rw [← HN2.out]; omega)).mono ?_
      intro e w7 hnd7
      rw [← HN2.out] at hnd7
      obtain ⟨an7, cn7, rfl, hrn7, hbn7⟩ := named_open hnd7
      have hb67 := below_trans hbt7 hbn7
      have hb47 := below_trans hb46 hb67
      have hB7 := below_trans hB6 hb67
      have hrw7 := hrw6.below hb67
      have hrl7 := hrn6.below hb67
      clear hnd7 hct7 hpt7 hbt7 hbn7 hP2 hrw6 hrn6 hb46 hb67 hB6
      go_wp2_with fail
      refine (count_len (some ⟨g, 0, none⟩) _ _ qs 0 _ 0 q w7 HQL.out (hp4.below hb47) rfl rfl (Nat.zero_le _) (by rw [← HQL.out]; omega) (by omega) (by rw [← HN.out]; omega) N1.length HC1.out).mono ?_
      rintro e w8 ⟨rfl, m1, rfl⟩
      go_wp2_with fail
      refine (count_len (some ⟨g, 0, none⟩) _ _ qs _ _ q qs.length _ HQL.out ((hp4.below hb47).below (below_drewN _ _)) rfl (by rw [HQL.out]) (by rw [← HQL.out]; omega) (Nat.le_refl _) (by omega) (by rw [← HN.out]; omega) N2.length HC2.out).mono ?_
      rintro e w9 ⟨rfl, m2, rfl⟩
      go_wp2_with fail
      refine (sameAt_any an5 an6 N N1 cn5 cn6 0 0 _ rfl (by omega) (by rw [HNN.out]; exact stands_left _ _) (by exact hrw7) (by exact hrl7)).mono ?_
      rintro e w10 ⟨rfl, m3, rfl⟩
      go_wp2_with fail
      refine (sameAt_any an5 an7 N N2 cn5 cn7 _ N1.length _ rfl (by omega) (by rw [HNN.out]; exact stands_right _ _) (by exact hrw7) (by exact hrn7)).mono ?_
      rintro e w11 ⟨rfl, m4, rfl⟩
      go_wp2_with fail
      go_ret
      exact ⟨rfl, hB7.trans (by exact ⟨rfl, rfl, rfl, Nat.le_refl _, fun _ _ => rfl⟩)⟩
end Go.Proofs.Qxb6628592a
