import Derived.Test.Qxb6628592aParts2
namespace Go.Proofs.Qxb6628592a
open Go.RowKit

theorem box7 {w : World} {b : Nat} {l f s : ByteArray} {nm : Bool} {ie : ByteArray} {rs : Bool} {na : Option Addr} {nc : Nat} {names : List S} (h : PartAt w b 0 ⟨l, f, s, nm, ie, rs, na, nc, names⟩) :
    w.cell? ⟨b, 0, none⟩ = some (.string l) ∧ w.cell? ⟨b, 1, none⟩ = some (.string f) ∧ w.cell? ⟨b, 2, none⟩ = some (.string s) ∧ w.cell? ⟨b, 3, none⟩ = some (.bool nm) ∧ w.cell? ⟨b, 4, none⟩ = some (.string ie) ∧ w.cell? ⟨b, 5, none⟩ = some (.bool rs) ∧ w.cell? ⟨b, 6, none⟩ = some (.slice na names.length nc) :=
  ⟨h.h0, h.h1, h.h2, h.h3, h.h4, h.h5, h.h6⟩
theorem box_at (w : World) (l f s : ByteArray) (nm : Bool) (ie : ByteArray) (rs : Bool) (na : Option Addr) (nc : Nat) (names : List S) :
    PartAt (w.alloc (.cells #[.string l, .string f, .string s, .bool nm, .string ie, .bool rs, .slice na names.length nc] 34)) w.heap.size 0 ⟨l, f, s, nm, ie, rs, na, nc, names⟩ := by
  constructor <;> simp
theorem frozen_below {w w' : World} {b j : Nat} (hb : Below w.heap.size w w') (hlt : b < w.heap.size) (h : w.frozen? ⟨b, j, none⟩ = false) : w'.frozen? ⟨b, j, none⟩ = false := (hb.frozen (p := ⟨b, j, none⟩) hlt).trans h

theorem mid_low {A N N1 M N2 : List S} (hA : A = N1 ++ M ++ N2) (hN : N = N1 ++ N2) {i : Nat} (hi : i < N1.length) : A.getD i [] = N.getD i [] := by
  rw [hA, hN, List.getD_eq_getElem?_getD, List.getD_eq_getElem?_getD, List.append_assoc, List.getElem?_append_left hi, List.getElem?_append_left hi]
theorem mid_mid {A N1 M N2 : List S} (hA : A = N1 ++ M ++ N2) {i : Nat} (hi : i < M.length) : A.getD (N1.length + i) [] = M.getD i [] := by
  rw [hA, List.getD_eq_getElem?_getD, List.getD_eq_getElem?_getD, List.append_assoc, List.getElem?_append_right (by omega), Nat.add_sub_cancel_left, List.getElem?_append_left hi]
theorem mid_high {A N N1 M N2 : List S} (hA : A = N1 ++ M ++ N2) (hN : N = N1 ++ N2) {i : Nat} (h1 : N1.length ≤ i) (_h2 : i < N.length) : A.getD (M.length + i) [] = N.getD i [] := by
  rw [hA, hN, List.getD_eq_getElem?_getD, List.getD_eq_getElem?_getD, List.getElem?_append_right (by simp; omega), List.getElem?_append_right h1]
  congr 2
  simp; omega

set_option maxHeartbeats 8000000 in
set_option maxRecDepth 100000 in
theorem lawB_walk (a : Option Addr) (c : Nat) (ps : List PartV) (P : PartV) (k : Int) (w : World) (hn : ps.length ≤ maxLen) (hp : PRow w a ps) (hP : P.Ok w) (hnil : a = none → ps.length = 0) :
    Calls Try.prog 4 #[.slice a ps.length c, P.val, .int .i64 k] w (Yes w) := by
  obtain ⟨l, f, s, nm, ie, rs, na, nc, names⟩ := P
  go_enter Try.func4, Try.ntmps4
  go_wp2_with fail
  obtain ⟨W0, hW0⟩ : ∃ W0 : World, W0 = w.alloc (.cells #[.string l, .string f, .string s, .bool nm, .string ie, .bool rs, .slice na names.length nc] 34) := ⟨_, rfl⟩
  have hb0 : Below w.heap.size w W0 := by rw [hW0]; exact below_alloc _ _
  have hat0 : PartAt W0 w.heap.size 0 ⟨l, f, s, nm, ie, rs, na, nc, names⟩ := by rw [hW0]; exact box_at _ _ _ _ _ _ _ _ _ _
  have hfz0 : ∀ j, W0.frozen? ⟨w.heap.size, j, none⟩ = false := fun j => by rw [hW0, World.frozen?_alloc_at _ _ _ _ rfl]
  have hlt0 : w.heap.size < W0.heap.size := by rw [hW0]; simp
  have hP0 := hP.below hb0
  have HF : Hid (∀ j, W0.frozen? ⟨w.heap.size, j, none⟩ = false) := hfz0
  rw [← hW0]
  clear hW0 hfz0
  refine (bytesB_any a c ps ⟨l, f, s, nm, ie, rs, na, nc, names⟩ k W0 hn (hp.below hb0) hP0).mono ?_
  rintro e w1 ⟨r, rfl, hb1⟩
  cases r
  · go_wp2_with fail
    go_ret
    exact ⟨rfl, below_trans hb0 hb1⟩
  go_wp2_with fail
  refine (partsBytes_any 0 a c ps w1 (by omega) (by omega) hn (hp.below (below_trans hb0 hb1))).mono ?_
  rintro e w2 ⟨r, rfl, hb2, r0, r1, r2⟩
  have hb02 := below_trans hb1 hb2
  clear hb1 hb2 hn
  by_cases tr : 1048576 < r
  · go_wp2_with fail
    go_ret
    exact ⟨rfl, below_trans hb0 hb02⟩
  have hwt : wt ps ≤ r := by have := r2 (by omega); omega
  clear r2
  obtain ⟨c0, c1, c2, c3, c4, c5, c6⟩ := box7 (hat0.below hb02 hlt0)
  go_wp2_with fail
  refine (partBytes_any r ⟨l, f, s, nm, ie, rs, na, nc, names⟩ w2 (by omega) (by omega) (hP0.below hb02)).mono ?_
  rintro e w3 ⟨r', rfl, hb3, r3, r4, r5⟩
  simp only at r5
  have hb03 := below_trans hb02 hb3
  clear c0 c1 c2 c3 c4 c5 c6 hb3 hb02
  by_cases tr' : 1048576 < r'
  · go_wp2_with fail
    go_ret
    exact ⟨rfl, below_trans hb0 hb03⟩
  have hbd := wt_bounds ps
  have hr5 := r5 (by omega)
  have hpl : ps.length ≤ 16384 := by omega
  have hfl : (flat ps).length + names.length ≤ 65536 := by omega
  clear r5 hr5 hbd hwt r0 r1 r3 r4
  by_cases hk0 : k < 0
  · go_wp2_with fail
    go_ret
    exact ⟨rfl, below_trans hb0 hb03⟩
  by_cases hkn : (ps.length : Int) < k
  · go_wp2_with fail
    go_ret
    exact ⟨rfl, below_trans hb0 hb03⟩
  obtain ⟨q, rfl⟩ : ∃ q : Nat, k = q := ⟨k.toNat, by omega⟩
  have hq : q ≤ ps.length := by omega
  clear hk0 hkn
  go_wp2_with fail
  refine (allReach_any a c ps w3 (by unfold maxLen; omega) (hp.below (below_trans hb0 hb03))).mono ?_
  rintro e w4 ⟨rr, rfl, hb4⟩
  have hb04 := below_trans hb03 hb4
  clear hb03 hb4
  cases rr
  · go_wp2_with fail
    go_ret
    exact ⟨rfl, below_trans hb0 hb04⟩
  obtain ⟨c0, c1, c2, c3, c4, c5, c6⟩ := box7 (hat0.below hb04 hlt0)
  go_wp2_with fail
  refine (reach_any ⟨l, f, s, nm, ie, rs, na, nc, names⟩ w4).mono ?_
  rintro e w5 ⟨rr, rfl, hb5⟩
  have hb05 := below_trans hb04 hb5
  clear c0 c1 c2 c3 c4 c5 c6 hb5 hb04
  cases rr
  · go_wp2_with fail
    go_ret
    exact ⟨rfl, below_trans hb0 hb05⟩
  go_wp2_with fail
  refine (cloneParts_any a c ps w5 (hp.below (below_trans hb0 hb05)) (by omega) (fun t p h => Nat.le_trans (names_le t p h) (by omega)) hnil).mono ?_
  rintro e w6 ⟨a', c', qs, rfl, hnm, hp6, hb6, hform, hfresh⟩
  have hb06 := below_trans hb05 hb6
  have hql := len_of_names hnm
  have hqf := flat_of_names hnm
  have hfl' : (flat qs).length + names.length ≤ 65536 := by rw [hqf]; exact hfl
  obtain ⟨c0, c1, c2, c3, c4, c5, c6⟩ := box7 (hat0.below hb06 hlt0)
  have hcl := clonePart_any ⟨l, f, s, nm, ie, rs, na, nc, names⟩ w6 (hP0.below hb06) (by simp only; omega)
  have HCL : Hid (Calls Try.prog 16 #[PartV.val ⟨l, f, s, nm, ie, rs, na, nc, names⟩] w6 (Cloned w6 ⟨l, f, s, nm, ie, rs, na, nc, names⟩)) := hcl
  clear hcl
  go_wp2_with fail
  refine Calls.mono HCL.out ?_
  rintro e w7 ⟨na2, nc2, rfl, hok7, hb7, hfr7⟩
  have hb07 := below_trans hb06 hb7
  obtain ⟨e0, e1, e2, e3, e4, e5, e6⟩ := box7 (hat0.below hb07 hlt0)
  have efz : ∀ j, w7.frozen? ⟨w.heap.size, j, none⟩ = false := fun j => frozen_below hb07 hlt0 (HF.out j)
  clear c0 c1 c2 c3 c4 c5 c6 HCL
  go_wp2_with (at_make; go_must (refine wpList_makeP (B := w7.heap.size) (n := ps.length + 1) rfl _ _ rfl rfl rfl (by simp) (by omega) (by simp) ?_); intro v8 w8 hown8 hb8)
  obtain ⟨W5, hW5⟩ : ∃ W5 : World, W5 = put7 w7 w.heap.size 0 ⟨l, f, s, nm, ie, rs, na2, nc2, names⟩ := ⟨_, rfl⟩
  have hs5 : W5.heap.size = w7.heap.size := by rw [hW5, size_put7]
  have hbig7 : w.heap.size < w6.heap.size := Nat.lt_of_lt_of_le hlt0 hb06.size
  have hB5 : Below w.heap.size w W5 := by rw [hW5]; exact put7_below (below_trans hb0 hb07) (Nat.le_refl _)
  have hp5 : PRow W5 a' qs := by
    rw [hW5]
    refine pRow_put7 (hp6.below hb7) (fun x hx => ?_) (fun t p hp x hx => ?_)
    · rcases hform with ⟨rfl, _, _⟩ | ⟨g, rfl, _, hg⟩
      · cases hx
      · cases hx; have := hb05.size; simp only; omega
    · have := hfresh t p hp x hx; have := hb05.size; omega
  have hat5 : PartAt W5 w.heap.size 0 ⟨l, f, s, nm, ie, rs, na2, nc2, names⟩ := by rw [hW5]; exact partAt_self (hat0.below hb07 hlt0)
  have hok5 : PartV.Ok W5 ⟨l, f, s, nm, ie, rs, na2, nc2, names⟩ := by
    rw [hW5]
    exact (Off.put7 ⟨hok7, fun x hx => by have := hfr7 x hx; omega⟩).1
  have hb58 : Below W5.heap.size W5 w8 := by rw [hs5, hW5]; exact hb8
  have hlt5 : w.heap.size < W5.heap.size := by rw [hs5]; have := hb7.size; omega
  rw [← hs5] at hown8
  have HQL : Hid (ps.length = qs.length) := hid hql.symm
  clear hb8 hW5 hs5 hbig7 e0 e1 e2 e3 e4 e5 e6 efz hok7 hfr7 hb07 hb7 hb06 hb6 hb05 hform hfresh hp6 hP0 hP hp hnil hnm hqf hfl HF hat0 hlt0 hb0
  have hokP : Hid (StrRow W5 na2 names) := hok5.row
  obtain ⟨P2, hP2⟩ : ∃ P2 : PartV, P2 = ⟨l, f, s, nm, ie, rs, na2, nc2, names⟩ := ⟨_, rfl⟩
  have HP2 : Hid (P2 = ⟨l, f, s, nm, ie, rs, na2, nc2, names⟩) := hP2
  clear hP2
  go_loopw [8, 9] (fun v i wr => ∃ (k : Nat) (T : List PartV), k ≤ q ∧ i = .int .i64 k ∧ POwn W5.heap.size wr v T ∧ Below W5.heap.size W5 wr ∧ Hid (T = qs.take k)) (fun _ i _ => q - (intOf i).toNat)
  case atStart => exact ⟨0, [], Nat.zero_le _, rfl, hown8, hb58, hid (by simp)⟩
  case round =>
    clear hown8 hb58
    obtain ⟨k, T, hk, rfl, hown, hnx, HT⟩ := hrel
    by_cases hlt : k < q
    · have hkl : k < qs.length := by rw [← HQL.out]; omega
      obtain ⟨b, off, rfl, hb, hc⟩ := hp5 k hkl
      obtain ⟨p, hpk⟩ : ∃ p, qs[k]? = some p := ⟨_, List.getElem?_eq_getElem hkl⟩
      obtain ⟨hat, _⟩ := hc k p hpk
      obtain ⟨c0, c1, c2, c3, c4, c5, c6⟩ := hat.below hnx hb
      have hTl : T.length ≤ 1048576 := by rw [HT.out]; simp; omega
      have HTn : Hid (T ++ [p] = qs.take (k + 1)) := hid (by rw [HT.out, List.take_add_one, hpk]; simp)
      obtain ⟨l', f', s', nm', ie', rs', na', nc', names'⟩ := p
      simp only at c0 c1 c2 c3 c4 c5 c6
      have hsz := hnx.size
      clear hc hat hpk hp5 hat5 hok5 HT hb
      go_wp2_with (at_builtin; go_must (refine wpList_pushP (B := W5.heap.size) (T := T) (p := ⟨l', f', s', nm', ie', rs', na', nc', names'⟩) rfl _ _ rfl rfl rfl (by rfl) hsz hTl hown ?_); intro v' w' hown' hb')
      go_roundw
      case rel => exact ⟨k + 1, _, by omega, by go_num, hown', hnx.trans hb', hid HTn.out⟩
      case measure => simp [intOf]; omega
    · obtain rfl : k = q := by omega
      obtain ⟨c0, c1, c2, c3, c4, c5, c6⟩ := box7 (hat5.below hnx hlt5)
      have hTl : T.length ≤ 1048576 := by rw [HT.out]; simp; omega
      have hsz := hnx.size
      go_wp2_with (at_builtin; go_must (refine wpList_pushP (B := W5.heap.size) (T := T) (p := ⟨l, f, s, nm, ie, rs, na2, nc2, names⟩) rfl _ _ rfl rfl rfl (by rfl) hsz hTl hown ?_); intro v9 w9 hown9 hb9)
      have hnx9 := hnx.trans hb9
      have HT9 : Hid (T ++ [⟨l, f, s, nm, ie, rs, na2, nc2, names⟩] = qs.take k ++ [P2] ++ (qs.take k).drop k) := hid (by rw [HT.out, HP2.out]; simp)
      clear hown hnx hb9 HT hlt hTl hsz c0 c1 c2 c3 c4 c5 c6
      go_loopw [8, 10] (fun v i wr => ∃ (j : Nat) (T : List PartV), k ≤ j ∧ j ≤ ps.length ∧ i = .int .i64 j ∧ POwn W5.heap.size wr v T ∧ Below W5.heap.size W5 wr ∧ Hid (T = qs.take k ++ [P2] ++ (qs.take j).drop k)) (fun _ i _ => ps.length - (intOf i).toNat)
      case atStart => exact ⟨k, _, Nat.le_refl _, hq, rfl, hown9, hnx9, hid HT9.out⟩
      case round =>
        clear hown9 hnx9 HT9
        obtain ⟨j, T, hkj, hj, rfl, hown, hnx, HT⟩ := hrel
        by_cases hlt : j < ps.length
        · have hkl : j < qs.length := by rw [← HQL.out]; omega
          obtain ⟨b, off, rfl, hb, hc⟩ := hp5 j hkl
          obtain ⟨p, hpk⟩ : ∃ p, qs[j]? = some p := ⟨_, List.getElem?_eq_getElem hkl⟩
          obtain ⟨hat, _⟩ := hc j p hpk
          obtain ⟨c0, c1, c2, c3, c4, c5, c6⟩ := hat.below hnx hb
          have hTl : T.length ≤ 1048576 := by rw [HT.out]; simp; omega
          have HTn : Hid (T ++ [p] = qs.take k ++ [P2] ++ (qs.take (j + 1)).drop k) := hid (by rw [HT.out, List.take_add_one, hpk, List.drop_append_of_le_length (by simp; omega)]; simp)
          obtain ⟨l', f', s', nm', ie', rs', na', nc', names'⟩ := p
          simp only at c0 c1 c2 c3 c4 c5 c6
          have hsz := hnx.size
          clear hc hat hpk hp5 hat5 hok5 HT hb
          go_wp2_with (at_builtin; go_must (refine wpList_pushP (B := W5.heap.size) (T := T) (p := ⟨l', f', s', nm', ie', rs', na', nc', names'⟩) rfl _ _ rfl rfl rfl (by rfl) hsz hTl hown ?_); intro v' w' hown' hb')
          go_roundw
          case rel => exact ⟨j + 1, _, by omega, by omega, by go_num, hown', hnx.trans hb', hid HTn.out⟩
          case measure => simp [intOf]; omega
        · obtain rfl : j = ps.length := by omega
          have HT' : Hid (T = qs.take k ++ [P2] ++ qs.drop k) := hid (by rw [HT.out, HQL.out, List.take_length])
          have hTl : T.length = qs.length + 1 := by rw [HT'.out]; simp; rw [← HQL.out]; omega
          have hokT : ∀ (t : Nat) (r : PartV), T[t]? = some r → r.Ok wr := fun t r hr => by
            have hmem : r ∈ T := List.mem_iff_getElem?.2 ⟨t, hr⟩
            rw [HT'.out] at hmem
            have hin : r ∈ qs ∨ r = P2 := by
              simp only [List.mem_append, List.mem_singleton] at hmem
              rcases hmem with (h | h) | h
              · exact .inl (List.mem_of_mem_take h)
              · exact .inr h
              · exact .inl (List.mem_of_mem_drop h)
            rcases hin with h | h
            · obtain ⟨i, hi⟩ := List.mem_iff_getElem?.1 h
              obtain ⟨b, off, _, _, hc⟩ := hp5 i (List.getElem?_eq_some_iff.1 hi).1
              exact (hc i r hi).2.below hnx
            · rw [h, HP2.out]; exact hok5.below hnx
          obtain ⟨aG, cG, hvG, hpG⟩ := hown.row hokT
          obtain ⟨N, hN⟩ : ∃ N : List S, N = flat qs := ⟨_, rfl⟩
          obtain ⟨N1, hN1⟩ : ∃ N : List S, N = flat (qs.take k) := ⟨_, rfl⟩
          obtain ⟨N2, hN2⟩ : ∃ N : List S, N = flat (qs.drop k) := ⟨_, rfl⟩
          obtain ⟨A, hA⟩ : ∃ A : List S, A = flat T := ⟨_, rfl⟩
          have hNN : N = N1 ++ N2 := by rw [hN, hN1, hN2, ← flat_append, List.take_append_drop]
          have hAA : A = N1 ++ names ++ N2 := by
            rw [hA, HT'.out, flat_append, flat_append, hN1, hN2, HP2.out]; simp [flat]
          have hNs : N.length = N1.length + N2.length := by rw [hNN]; simp
          have hAs : A.length = N.length + names.length := by rw [hAA, hNs]; simp; omega
          have hNl : N.length + names.length ≤ 65536 := by rw [hN]; exact hfl'
          have hN1n : N1.length ≤ N.length := by omega
          have tA : ((A.length : Int) != (N.length : Int) + (names.length : Int)) = false := by rw [hAs]; simp
          have hc1 : N1.length = (flat ((qs.take k).drop 0)).length := by rw [hN1]; simp
          have hc2 : N.length = (flat ((qs.take qs.length).drop 0)).length := by rw [hN]; simp
          have HN : Hid (N = flat qs) := hN
          have HA : Hid (A = flat T) := hA
          have HNN : Hid (N = N1 ++ N2) := hNN
          have HAA : Hid (A = N1 ++ names ++ N2) := hAA
          have HAs : Hid (A.length = N.length + names.length) := hAs
          have HC1 : Hid (N1.length = (flat ((qs.take k).drop 0)).length) := hc1
          have HC2 : Hid (N.length = (flat ((qs.take qs.length).drop 0)).length) := hc2
          have HTl : Hid (T.length = qs.length + 1) := hTl
          have hql2 : qs.length ≤ 16384 := by omega
          have hAl : A.length ≤ 65536 := by omega
          have hTl2 : T.length ≤ 65537 := by omega
          clear hN hN1 hN2 hA hNN hAA hNs hAs hc1 hc2 hTl hokT hown HT HT' hlt hj hkj hql hfl' hok5
          have hrowP : StrRow W5 na2 names := by
            have := hokP.out; exact this
          subst hvG
          go_wp2_with fail
          refine (build_len a' _ _ qs wr HQL.out (hp5.below hnx) (by omega)).mono ?_
          rintro e u1 ⟨t1, at1, ct1, rfl, hct1, hpt1, hbt1⟩
          go_wp2_with fail
          refine (names_any t1 at1 ct1 qs u1 hpt1 hct1 (by omega) (by rw [← HN.out]; omega)).mono ?_
          intro e x1 hnd1
          rw [← HN.out] at hnd1
          obtain ⟨an1, cn1, rfl, hrn1, hbn1⟩ := named_open hnd1
          have hbx1 := below_trans hbt1 hbn1
          clear hnd1 hct1 hpt1 hbt1 hbn1
          go_wp2_with fail
          refine (build_len aG _ _ T x1 rfl (hpG.below hbx1) hTl2).mono ?_
          rintro e u2 ⟨t2, at2, ct2, rfl, hct2, hpt2, hbt2⟩
          go_wp2_with fail
          refine (names_any t2 at2 ct2 T u2 hpt2 hct2 hTl2 (by rw [← HA.out]; omega)).mono ?_
          intro e x2 hnd2
          rw [← HA.out] at hnd2
          obtain ⟨an2, cn2, rfl, hrn2, hbn2⟩ := named_open hnd2
          have hbx2 := below_trans hbt2 hbn2
          have hb5x : Below W5.heap.size W5 x2 := below_trans (below_trans hnx hbx1) hbx2
          have hrB := hrn1.below hbx2
          have hBx := below_trans hB5 hb5x
          clear hnd2 hct2 hpt2 hbt2 hbn2 hpG hrn1
          go_wp2_with fail
          refine (count_len a' _ _ qs 0 _ 0 k x2 HQL.out (hp5.below hb5x) rfl rfl (Nat.zero_le _) (by rw [← HQL.out]; omega) (by omega) (by rw [← HN.out]; omega) N1.length HC1.out).mono ?_
          rintro e y1 ⟨rfl, m1, rfl⟩
          go_wp2_with fail
          refine (count_len a' _ _ qs 0 _ 0 qs.length _ HQL.out ((hp5.below hb5x).below (below_drewN _ _)) rfl (by rw [HQL.out]) (Nat.zero_le _) (Nat.le_refl _) (by omega) (by rw [← HN.out]; omega) N.length HC2.out).mono ?_
          rintro e y2 ⟨rfl, m2, rfl⟩
          obtain ⟨_, _, _, _, _, _, c6⟩ := box7 (hat5.below hb5x hlt5)
          have hrP := hrowP.below hb5x
          clear hp5 hat5 hrowP hbx1 hbx2 hnx hB5
          go_wp2_with fail
          have HE1 : Hid (∀ i, i < N1.length → A.getD i [] = N.getD i []) := fun i hi => mid_low HAA.out HNN.out hi
          have HE2 : Hid (∀ i, i < names.length → A.getD (N1.length + i) [] = names.getD i []) := fun i hi => mid_mid HAA.out hi
          have HE3 : Hid (∀ i, N1.length ≤ i → i < N.length → A.getD (names.length + i) [] = N.getD i []) := fun i h1 h2 => mid_high HAA.out HNN.out h1 h2
          clear HNN HAA HN HA HC1 HC2 HTl HP2 hb5x hokP
          go_loopw [16] (fun i wr2 => ∃ j n : Nat, j ≤ N1.length ∧ i = .int .i64 j ∧ wr2 = x2.drewN n) (fun i _ => N1.length - (intOf i).toNat)
          case atStart => exact ⟨0, _, Nat.zero_le _, rfl, rfl⟩
          case round =>
            obtain ⟨j, n, hj, rfl, rfl⟩ := hrel
            by_cases hlj : j < N1.length
            · obtain ⟨b1, o1, rfl, _, hc1⟩ := hrn2 j (by have := HAs.out; omega)
              obtain ⟨b2, o2, rfl, _, hc2⟩ := hrB j (by omega)
              have q1 := hc1 j (by have := HAs.out; omega)
              have q2 := hc2 j (by omega)
              rw [HE1.out j hlj] at q1
              obtain ⟨x, hx⟩ : ∃ x, N.getD j [] = x := ⟨_, rfl⟩
              rw [hx] at q1 q2
              have hl1 : (j : Int) < (A.length : Int) := by have := HAs.out; omega
              have hl2 : (j : Int) < (N.length : Int) := by omega
              clear hc1 hc2 hx hrn2 hrB hrP
              go_wp2_with fail
              go_quiet (fail)
              go_wp2_with fail
              go_roundw
              case rel => exact ⟨j + 1, _, by omega, by go_num, rfl⟩
              case measure => simp [intOf]; omega
            · go_wp2_with fail
              go_loopw [17] (fun i wr2 => ∃ j n : Nat, j ≤ names.length ∧ i = .int .i64 j ∧ wr2 = x2.drewN n) (fun i _ => names.length - (intOf i).toNat)
              case atStart => exact ⟨0, _, Nat.zero_le _, rfl, rfl⟩
              case round =>
                clear hlj hj
                obtain ⟨j2, n2, hj2, rfl, rfl⟩ := hrel
                by_cases hlj2 : j2 < names.length
                · obtain ⟨b1, o1, rfl, _, hc1⟩ := hrn2 (N1.length + j2) (by have := HAs.out; omega)
                  obtain ⟨b2, o2, rfl, _, hc2⟩ := hrP j2 hlj2
                  have q1 := hc1 (N1.length + j2) (by have := HAs.out; omega)
                  have q2 := hc2 j2 hlj2
                  rw [HE2.out j2 hlj2] at q1
                  obtain ⟨x, hx⟩ : ∃ x, names.getD j2 [] = x := ⟨_, rfl⟩
                  rw [hx] at q1 q2
                  have hl1 : (N1.length : Int) + (j2 : Int) < (A.length : Int) := by have := HAs.out; omega
                  have hl2 : (j2 : Int) < (names.length : Int) := by omega
                  have e1 : ((N1.length : Int) + (j2 : Int)).toNat = N1.length + j2 := by omega
                  clear hc1 hc2 hx hrn2 hrB hrP
                  go_wp2_with fail
                  go_quiet (fail)
                  go_wp2_with fail
                  go_roundw
                  case rel => exact ⟨j2 + 1, _, by omega, by go_num, rfl⟩
                  case measure => simp [intOf]; omega
                · go_wp2_with fail
                  go_loopw [18] (fun i wr2 => ∃ j n : Nat, N1.length ≤ j ∧ j ≤ N.length ∧ i = .int .i64 j ∧ wr2 = x2.drewN n) (fun i _ => N.length - (intOf i).toNat)
                  case atStart => exact ⟨N1.length, _, Nat.le_refl _, hN1n, rfl, rfl⟩
                  case round =>
                    clear hlj2 hj2
                    obtain ⟨j3, n3, hj3, hj4, rfl, rfl⟩ := hrel
                    by_cases hlj3 : j3 < N.length
                    · obtain ⟨b1, o1, rfl, _, hc1⟩ := hrn2 (names.length + j3) (by have := HAs.out; omega)
                      obtain ⟨b2, o2, rfl, _, hc2⟩ := hrB j3 hlj3
                      have q1 := hc1 (names.length + j3) (by have := HAs.out; omega)
                      have q2 := hc2 j3 hlj3
                      rw [HE3.out j3 hj3 hlj3] at q1
                      obtain ⟨x, hx⟩ : ∃ x, N.getD j3 [] = x := ⟨_, rfl⟩
                      rw [hx] at q1 q2
                      have hl1 : (names.length : Int) + (j3 : Int) < (A.length : Int) := by have := HAs.out; omega
                      have hl2 : (j3 : Int) < (N.length : Int) := by omega
                      have e1 : ((names.length : Int) + (j3 : Int)).toNat = names.length + j3 := by omega
                      clear hc1 hc2 hx hrn2 hrB hrP
                      go_wp2_with fail
                      go_quiet (fail)
                      go_wp2_with fail
                      go_roundw
                      case rel => exact ⟨j3 + 1, _, by omega, by omega, by go_num, rfl⟩
                      case measure => simp [intOf]; omega
                    · go_wp2_with fail
                      go_ret
                      exact ⟨rfl, hBx.trans (by exact ⟨rfl, rfl, rfl, Nat.le_refl _, fun _ _ => rfl⟩)⟩
end Go.Proofs.Qxb6628592a
