import Derived.Test.Qxb6628546aWalkD
import Derived.Laws.CopyOwn
namespace Go.Proofs.Qxb6628546a
open Go.RowKit

theorem Try.info5 : (Try.prog.info? 5).map (fun i => (i.zero, i.size, i.bytes)) = some (some (.int .u8 0), 1, 1) := by kernel_rfl
theorem size5 : (Try.prog.info? 5).map (·.size) = some 1 := by kernel_rfl

/-- The slice that begins at 'a' holds the numbers 'L'. -/
def NatRow (w : World) (a : Option Addr) (L : List Nat) : Prop :=
  ∀ j, j < L.length → ∃ b off, a = some ⟨b, off, none⟩ ∧ b < w.heap.size ∧ ∀ t, t < L.length → w.cell? ⟨b, off + t, none⟩ = some (iv (L.getD t 0))
theorem NatRow.below {w w' : World} {a : Option Addr} {L : List Nat} (h : NatRow w a L) (hb : Below w.heap.size w w') : NatRow w' a L := fun j hj => by
  obtain ⟨b, off, rfl, hlt, hc⟩ := h j hj
  exact ⟨b, off, rfl, Nat.lt_of_lt_of_le hlt hb.size, fun t ht => (hb.cell (p := ⟨b, off + t, none⟩) hlt).trans (hc t ht)⟩
theorem natRow_of {B : Nat} {w : World} {v : Value} {L : List Nat} (h : w.ownsRow B 3 1 v L.length (L.map iv)) : ∃ a c, v = .slice a L.length c ∧ NatRow w a L := by
  rcases h.2 with ⟨rfl, h0⟩ | ⟨g, cap, cur, rfl, hb, hg, h1, h2, h3, h4⟩
  · exact ⟨none, 0, by rw [h0], fun j hj => absurd hj (by omega)⟩
  · refine ⟨_, cap, rfl, fun j hj => ⟨g, 0, rfl, (Array.getElem?_eq_some_iff.1 hg).1, fun t ht => ?_⟩⟩
    rw [Nat.zero_add, h.cellAt t (by simpa using ht)]
    simp [ht]

/-- 'copy(zzc, data)' into a row that the call has just made, of the same length. -/
theorem wpList_copyB {X w0 : World} {ops : Array Oper} {rest : List Oper} {o : Oper} {a : Act} {Q : Exit → Act → World → Prop} {B g c : Nat} {xs : List Value} {sp : Option Addr} {d : List Int}
    (hg : o.guard = none) (p s : Operand) (ho : o.op = Op.call { callee := Callee.builtin Builtin.copy, args := #[p, s], argTypes := #[22, 22] })
    (hp : a.eval p = .slice (some ⟨g, 0, none⟩) d.length d.length) (hs : a.eval s = .slice sp d.length c)
    (hown : X.ownsRow B 5 1 (.slice (some ⟨g, 0, none⟩) d.length d.length) d.length xs) (hrow : ByteRow X sp d) (hb : Below B w0 X) (hBg : B ≤ g)
    (hk : ∀ w', ByteRow w' (some ⟨g, 0, none⟩) d → Below B w0 w' → wpList Try.prog ops Q rest (a.put o.dst (goInt d.length)) w') :
    wpList Try.prog ops Q (o :: rest) a X := by
  rcases hown.2 with ⟨h0, _⟩ | ⟨g', cap', cur, hv, hbase, hh, h1, h2, h3, h4⟩
  · cases h0
  have hgg : g = g' ∧ d.length = cap' := by
    injection hv with e1 e2 e3
    exact ⟨by injection e1 with e1; injection e1, e3⟩
  obtain ⟨rfl, rfl⟩ := hgg
  refine wpList_copy_splice hg p s 22 22 ho 5 Try.underlying22 size5 _ _ _ _ _ _ hp hs g 0 cur.toList 5 (by simpa using hh) (d.map (Value.int .u8)) (by simp) (fun hpos => ?_) (by simp; omega) (by intro v hv; simp at hv; obtain ⟨x, _, rfl⟩ := hv; rfl) B w0 hb hBg ?_
  · simp only [List.length_map] at hpos
    obtain ⟨b, off, rfl, _, hc⟩ := hrow 0 hpos
    refine ⟨rfl, _, rfl, fun j v hj => ?_⟩
    rw [List.getElem?_map] at hj
    have hjl : j < d.length := by
      rcases Nat.lt_or_ge j d.length with h | h
      · exact h
      · rw [List.getElem?_eq_none h] at hj; cases hj
    have e : (⟨b, off, none⟩ : Addr).add j = ⟨b, off + j, none⟩ := by unfold Addr.add; split <;> simp_all
    rw [e, hc j hjl]
    rw [List.getElem?_eq_getElem hjl] at hj
    simp at hj
    simp [hjl, hj]
  · intro w' hw' hb'
    have hcs : cur.size = d.length := by simpa using h3
    have hsp : splice cur.toList 0 (d.map (Value.int .u8)) = d.map (Value.int .u8) := by simp [splice, hcs]
    have hw := hw'.out
    rw [hsp] at hw
    have := hk w' (fun j hj => ⟨g, 0, rfl, (Array.getElem?_eq_some_iff.1 hw).1, fun t ht => ?_⟩) hb'
    · simpa using this
    · rw [Nat.zero_add]
      simp [World.cell?, hw, ht]

theorem take_drop_row {w : World} {b o : Nat} {d : List Int} {k m : Nat} (hb : b < w.heap.size) (hc : ∀ t, t < d.length → w.cell? ⟨b, o + t, none⟩ = some (.int .u8 (d.getD t 0))) : ByteRow w (some ⟨b, o + k, none⟩) ((d.drop k).take m) := fun j hj => by
  refine ⟨b, o + k, rfl, hb, fun t ht => ?_⟩
  simp only [List.length_take, List.length_drop] at ht
  rw [Nat.add_assoc, hc (k + t) (by omega), getD_take (by omega)]
  simp [List.getD_eq_getElem?_getD]

set_option maxHeartbeats 8000000 in
set_option maxRecDepth 100000 in
theorem law2_walk (a : Option Addr) (d : List Int) (c : Nat) (k : Int) (w : World) (hn : d.length ≤ maxLen) (hc : d.length ≤ c) (hs : ByteRow w a d) (hnil : a = none → d.length = 0 ∧ c = 0) :
    Calls Try.prog 4 #[.slice a d.length c, .int .i64 k] w (Yes w) := by
  rcases Nat.lt_or_ge 1048576 d.length with hbig | hbig
  · have HB := bytes9_any a d.length c k w hn
    rw [decide_eq_false (by omega)] at HB
    have HB' : Hid (Calls Try.prog 9 #[.slice a d.length c, .int .i64 k] w (Tells w (.bool false))) := HB
    clear HB hs
    go_enter Try.func4, Try.ntmps4
    go_wp2_with fail
    refine Calls.mono HB'.out ?_
    rintro e w' ⟨rfl, m, rfl⟩
    go_wp2_with fail
    go_ret
    exact ⟨rfl, below_drewN _ _⟩
  have HB := bytes9_any a d.length c k w hn
  rw [decide_eq_true hbig] at HB
  have HB' : Hid (Calls Try.prog 9 #[.slice a d.length c, .int .i64 k] w (Tells w (.bool true))) := HB
  clear HB hn
  obtain ⟨i0, hi, hz0, hz1, hz2⟩ := info_parts Try.info5
  go_enter Try.func4, Try.ntmps4
  go_wp2_with fail
  refine Calls.mono HB'.out ?_
  rintro e w' ⟨rfl, m, rfl⟩
  clear HB'
  by_cases hk0 : k < 0
  · go_wp2_with fail
    go_ret
    exact ⟨rfl, below_drewN _ _⟩
  by_cases hkn : (d.length : Int) < k
  · go_wp2_with fail
    go_ret
    exact ⟨rfl, below_drewN _ _⟩
  obtain ⟨cut, rfl⟩ : ∃ q : Nat, k = q := ⟨k.toNat, by omega⟩
  have hcut : cut ≤ d.length := by omega
  clear hk0 hkn
  obtain ⟨W0, hW0⟩ : ∃ W0 : World, W0 = w.drewN m := ⟨_, rfl⟩
  have hb0 : Below w.heap.size w W0 := by rw [hW0]; exact below_drewN _ _
  have hs0 := hs.below hb0
  rw [← hW0]
  clear hW0 hs
  cases a with
  | none =>
    obtain ⟨hd0, rfl⟩ := hnil rfl
    have hd : d = [] := List.length_eq_zero_iff.1 hd0
    subst hd
    have hc0 : cut = 0 := by simpa using hcut
    subst hc0
    clear hnil hd0 hcut hbig hc
    go_wp2_with fail
    refine (lines_any none [] 0 W0 (Nat.zero_le _) (Nat.zero_le _) hs0).mono ?_
    rintro e w3 ⟨v, u, rfl, hT3, hb3⟩
    have hB3 := below_trans hb0 hb3
    have hl0 : lines [] = [] := lines_nil rfl
    rw [hl0] at hT3
    obtain ⟨a6, c6, rfl, _⟩ := natRow_of hT3.fst
    obtain ⟨a7, c7, rfl, _⟩ := natRow_of hT3.snd
    clear hT3 hl0 hb3 hs0
    go_wp2_with fail
    refine wp_loop_rounds 1 ?_
    rw [rounds_succ]
    go_wp2_with fail
    refine wp_loop_rounds 1 ?_
    rw [rounds_succ]
    go_wp2_with fail
    refine wp_loop_rounds 1 ?_
    rw [rounds_succ]
    go_wp2_with fail
    go_ret
    exact ⟨rfl, hB3⟩
  | some x =>
    clear hnil
    have hx : (some x : Option Addr).isNone = false := rfl
    go_wp2_with (first | (at_make; go_must (refine wpList_make_full _ rfl _ _ 22 rfl W0.heap.size 5 i0 (.int .u8 0) 1 Try.underlying22 hi hz0 hz1 .i64 .i64 _ _ d.length rfl rfl rfl rfl (by rw [hz2]; omega) (by unfold maxLen; omega) (Nat.le_refl _) ?_); intro w1 hown hgrow) | (refine wpList_copyB (B := W0.heap.size) (w0 := W0) (d := d) rfl (.tmp 39) (.tmp 40) rfl rfl rfl hown (hs0.below ((Below.refl _ _).grown hgrow (Nat.le_refl _) (fun k h => by cases h))) ((Below.refl _ _).grown hgrow (Nat.le_refl _) (fun k h => by cases h)) (Nat.le_refl _) ?_; intro W2 hsW hbW))
    have hB2 := below_trans hb0 hbW
    clear hown hgrow hs0 hx hc
    generalize (some (⟨W0.heap.size, 0, none⟩ : Addr)) = a2 at hsW ⊢
    refine (lines_any a2 d d.length W2 hbig (Nat.le_refl _) hsW).mono ?_
    rintro e w3 ⟨v, u, rfl, hT3, hb3⟩
    have hB3 := below_trans hB2 hb3
    have hs3 := hsW.below hb3
    obtain ⟨LA, hLA⟩ : ∃ LA, (lines d).map Prod.fst = LA := ⟨_, rfl⟩
    obtain ⟨LB, hLB⟩ : ∃ LB, (lines d).map Prod.snd = LB := ⟨_, rfl⟩
    rw [hLA, hLB] at hT3
    have HLA : Hid ((lines d).map Prod.fst = LA) := hLA
    have HLB : Hid ((lines d).map Prod.snd = LB) := hLB
    obtain ⟨a6, c6, rfl, hr6⟩ := natRow_of hT3.fst
    obtain ⟨a7, c7, rfl, hr7⟩ := natRow_of hT3.snd
    clear hT3 hb3 hsW hB2 hLA hLB hbW hb0
    go_wp2_with fail
    go_loopw [9, 10, 11] (fun v u o wr => ∃ off : Nat, off ≤ cut ∧ o = .int .i64 off ∧ LRel w3 d v u off wr) (fun _ _ o _ => cut - (intOf o).toNat)
    case atStart => exact ⟨0, Nat.zero_le _, rfl, [], Two.nil _ _, Below.refl _ _, Sofar.start d⟩
    case round =>
      obtain ⟨off, ho, rfl, L, hT, hnx, hS⟩ := hrel
      by_cases hlt : off < cut
      · obtain ⟨b, o, ha, hb, hcell⟩ := hs3 off (by omega)
        have hrow : ByteRow w3 (some ⟨b, o + off, none⟩) ((d.drop off).take (cut - off)) := take_drop_row hb hcell
        have hrow' := hrow.below hnx
        have hLl : L.length ≤ 1048576 := Nat.le_trans hS.len (Nat.le_trans (lines_le d) hbig)
        have hS2 := hS.step (by omega)
        have hmore := adv_more (d := d.drop off) (m := cut - off)
        obtain ⟨D, hD⟩ : ∃ D, (d.drop off).take (cut - off) = D := ⟨_, rfl⟩
        have hDl : D.length = cut - off := by rw [← hD]; simp; omega
        rw [hD] at hrow' hmore
        have HS := split6_any _ D (d.length - off) false wr (by omega) (by omega) hrow'
        have hcne : ¬ d.length = off := by omega
        have HDl : Hid (D.length = cut - off) := hDl
        by_cases hz : adv D false = 0
        · rw [splitVal_zero hz, hDl] at HS
          have HS' : Hid (Calls Try.prog 6 #[.slice (some ⟨b, o + off, none⟩) (cut - off) (d.length - off), .bool false] wr (Tells wr (.tuple #[.int .i64 0, .slice none 0 0, .nilIface]))) := HS
          have Hoff : Hid (off ≤ d.length) := hid (by omega)
          subst ha
          clear HS hcell hrow hD hS2 hmore hrow' hDl hz
          go_wp2_with fail
          refine Calls.mono HS'.out ?_
          rintro e w' ⟨rfl, m1, rfl⟩
          clear HS'
          go_wp2_with fail
          go_loopw [9, 10, 11] (fun v u o wr => ∃ off : Nat, off ≤ d.length ∧ o = .int .i64 off ∧ LRel w3 d v u off wr) (fun _ _ o _ => d.length - (intOf o).toNat)
          case atStart => exact ⟨off, Hoff.out, rfl, L, hT.drewN _, hnx.trans (by exact ⟨rfl, rfl, rfl, Nat.le_refl _, fun _ _ => rfl⟩), hS⟩
          case round =>
            clear hT hnx hS ho hlt Hoff HDl hcne hLl hb
            obtain ⟨off, ho, rfl, L, hT, hnx, hS⟩ := hrel
            by_cases hlt : off < d.length
            · obtain ⟨b, o, ha, hb, hcell⟩ := hs3 off hlt
              have hrow : ByteRow w3 (some ⟨b, o + off, none⟩) (d.drop off) := row_drop hb hcell
              have hrow' := hrow.below hnx
              have hLl : L.length ≤ 1048576 := Nat.le_trans hS.len (Nat.le_trans (lines_le d) hbig)
              have hS2 := hS.step hlt
              obtain ⟨D, hD⟩ : ∃ D, d.drop off = D := ⟨_, rfl⟩
              have hDl : D.length = d.length - off := by rw [← hD]; simp
              rw [hD] at hrow' hS2
              have hA := adv_pos (d := D) (by omega)
              have hA2 := adv_le D true
              have hT2 := tl_le hA
              have HS := split6_any _ D (d.length - off) true wr (by omega) (by omega) hrow'
              rw [splitVal_pos ⟨rfl, rfl⟩ hA, hDl] at HS
              obtain ⟨A, hAe⟩ : ∃ A, adv D true = A := ⟨_, rfl⟩
              obtain ⟨T, hTe⟩ : ∃ T, tl D = T := ⟨_, rfl⟩
              rw [hAe] at hA hA2 hT2 HS hS2
              rw [hTe] at hT2 HS hS2
              rw [hDl] at hA2
              have HS' : Hid (Calls Try.prog 6 #[.slice (some ⟨b, o + off, none⟩) (d.length - off) (d.length - off), .bool true] wr (Tells wr (.tuple #[.int .i64 A, .slice (some ⟨b, o + off, none⟩) T (d.length - off), .nilIface]))) := HS
              have HDl : Hid (D.length = d.length - off) := hDl
              have hcne : ¬ d.length = off := by omega
              have HS2 : Hid (Sofar d (off + A) (L ++ [(A, T)])) := hS2
              have hLl1 : (L.map Prod.fst).length ≤ 1048576 := by simpa using hLl
              have hLl2 : (L.map Prod.snd).length ≤ 1048576 := by simpa using hLl
              obtain ⟨L1, hL1⟩ : ∃ L1, L.map Prod.fst = L1 := ⟨_, rfl⟩
              obtain ⟨L2, hL2⟩ : ∃ L2, L.map Prod.snd = L2 := ⟨_, rfl⟩
              rw [hL1] at hT hLl1
              rw [hL2] at hT hLl2
              have HL1 : Hid (L.map Prod.fst = L1) := hL1
              have HL2 : Hid (L.map Prod.snd = L2) := hL2
              cases ha
              clear HS hDl hcell hrow hD hAe hTe hS hS2 hL1 hL2 hLl hr6 hr7 hs3
              go_wp2_with fail
              refine Calls.mono HS'.out ?_
              rintro e w' ⟨rfl, m1, rfl⟩
              clear HS'
              go_wp2_with fail
              refine (prefix_any _ D (d.length - off) _ _ T _ (by rw [HDl.out]; omega) HDl.out.symm (by rw [HDl.out]; omega) (by exact hrow')).mono ?_
              rintro e w' ⟨rfl, m2, rfl⟩
              go_wp2_with (first | (at_builtin; refine wpList_pushI (B := w3.heap.size) (L := L1) (M := L2) (x := A) rfl (.tmp 139) (.tmp 141) rfl rfl rfl (by rfl) (by exact hnx.size) hLl1 (hT.drewN _) ?_; intro v1 w1 hT1 hb1) | (at_builtin; refine wpList_pushI (B := w3.heap.size) (L := L2) (M := L1 ++ [A]) (x := T) rfl (.tmp 143) (.tmp 146) rfl rfl rfl (by rfl) (by exact Nat.le_trans hnx.size hb1.size) hLl2 hT1.flip ?_; intro v2 w2 hT3 hb2))
              go_roundw
              case rel => exact ⟨off + A, by omega, by go_num, L ++ [(A, T)], by rw [List.map_append, List.map_append, HL1.out, HL2.out]; exact hT3.flip, (below_from_drewN hnx hb1).trans hb2, HS2.out⟩
              case measure => simp [intOf]; omega
            · have hL : L = lines d := hS.done (by omega)
              subst hL
              rw [HLA.out, HLB.out] at hT
              have hll : LB.length = LA.length := by rw [← HLA.out, ← HLB.out]; simp
              obtain ⟨a9, c9, he9, hr9⟩ := natRow_of hT.fst
              obtain ⟨a10, c10, he10, hr10⟩ := natRow_of hT.snd
              have hr6' := hr6.below hnx
              have hr7' := hr7.below hnx
              have hBF := below_trans hB3 hnx
              have hLAl : LA.length ≤ 1048576 := by rw [← HLA.out]; simp; exact Nat.le_trans (lines_le d) hbig
              have HLL : Hid (LB.length = LA.length) := hll
              clear hT hnx hS hr6 hr7 hB3 hll ho hs3
              subst he9
              subst he10
              have tll : ((LA.length : Int) != (LA.length : Int)) = false := by simp
              go_wp2_with fail
              go_loopw [18] (fun i wr2 => ∃ j n : Nat, j ≤ LA.length ∧ i = .int .i64 j ∧ wr2 = wr.drewN n) (fun i _ => LA.length - (intOf i).toNat)
              case atStart => exact ⟨0, 0, Nat.zero_le _, rfl, rfl⟩
              case round =>
                obtain ⟨j, n, hj, rfl, rfl⟩ := hrel
                by_cases hlj : j < LA.length
                · have hlj2 : j < LB.length := by rw [HLL.out]; exact hlj
                  obtain ⟨b6, o6, rfl, _, hc6⟩ := hr6' j hlj
                  obtain ⟨b7, o7, rfl, _, hc7⟩ := hr7' j hlj2
                  obtain ⟨b9, o9, rfl, _, hc9⟩ := hr9 j hlj
                  obtain ⟨b10, o10, rfl, _, hc10⟩ := hr10 j hlj2
                  have q6 := hc6 j hlj
                  have q7 := hc7 j hlj2
                  have q9 := hc9 j hlj
                  have q10 := hc10 j hlj2
                  obtain ⟨x6, hx6⟩ : ∃ x6, LA.getD j 0 = x6 := ⟨_, rfl⟩
                  obtain ⟨x7, hx7⟩ : ∃ x7, LB.getD j 0 = x7 := ⟨_, rfl⟩
                  rw [hx6] at q6 q9
                  rw [hx7] at q7 q10
                  have t6 : ((x6 : Int) != (x6 : Int)) = false := by simp
                  have t7 : ((x7 : Int) != (x7 : Int)) = false := by simp
                  have hl6 : (j : Int) < (LA.length : Int) := by omega
                  have hl7 : (j : Int) < (LB.length : Int) := by omega
                  clear hc6 hc7 hc9 hc10 hx6 hx7 hr6' hr7' hr9 hr10
                  go_wp2_with fail
                  go_quiet (fail)
                  go_wp2_with fail
                  go_roundw
                  case rel => exact ⟨j + 1, _, by omega, by go_num, rfl⟩
                  case measure => simp [intOf]; omega
                · go_wp2_with fail
                  go_ret
                  exact ⟨rfl, below_trans hBF (below_drewN _ _)⟩
        · have hA : 0 < adv D false := by omega
          obtain ⟨hm1, hm2⟩ := hmore hA
          have hA2 := adv_le D false
          have hT2 := tl_le hA
          rw [← hm1, ← hm2] at hS2
          rw [splitVal_pos ⟨rfl, rfl⟩ hA, hDl] at HS
          obtain ⟨A, hAe⟩ : ∃ A, adv D false = A := ⟨_, rfl⟩
          obtain ⟨T, hTe⟩ : ∃ T, tl D = T := ⟨_, rfl⟩
          rw [hAe] at hA hA2 hT2 HS hS2
          rw [hTe] at hT2 HS hS2
          rw [hDl] at hA2
          have HS' : Hid (Calls Try.prog 6 #[.slice (some ⟨b, o + off, none⟩) (cut - off) (d.length - off), .bool false] wr (Tells wr (.tuple #[.int .i64 A, .slice (some ⟨b, o + off, none⟩) T (d.length - off), .nilIface]))) := HS
          have HS2 : Hid (Sofar d (off + A) (L ++ [(A, T)])) := hS2
          have hLl1 : (L.map Prod.fst).length ≤ 1048576 := by simpa using hLl
          have hLl2 : (L.map Prod.snd).length ≤ 1048576 := by simpa using hLl
          obtain ⟨L1, hL1⟩ : ∃ L1, L.map Prod.fst = L1 := ⟨_, rfl⟩
          obtain ⟨L2, hL2⟩ : ∃ L2, L.map Prod.snd = L2 := ⟨_, rfl⟩
          rw [hL1] at hT hLl1
          rw [hL2] at hT hLl2
          have HL1 : Hid (L.map Prod.fst = L1) := hL1
          have HL2 : Hid (L.map Prod.snd = L2) := hL2
          have tA0 : ((A : Int) == 0) = false := beq_eq_false_iff_ne.2 (by omega)
          subst ha
          clear HS hDl hcell hrow hD hAe hTe hS hS2 hmore hm1 hm2 hz hL1 hL2 hLl hr6 hr7 hs3
          go_wp2_with fail
          refine Calls.mono HS'.out ?_
          rintro e w' ⟨rfl, m1, rfl⟩
          clear HS'
          go_wp2_with fail
          refine (prefix_any _ D (cut - off) _ _ T _ (by rw [HDl.out]; omega) HDl.out.symm (by rw [HDl.out]; omega) (by exact hrow')).mono ?_
          rintro e w' ⟨rfl, m2, rfl⟩
          go_wp2_with (first | (at_builtin; refine wpList_pushI (B := w3.heap.size) (L := L1) (M := L2) (x := A) rfl (.tmp 91) (.tmp 93) rfl rfl rfl (by rfl) (by exact hnx.size) hLl1 (hT.drewN _) ?_; intro v1 w1 hT1 hb1) | (at_builtin; refine wpList_pushI (B := w3.heap.size) (L := L2) (M := L1 ++ [A]) (x := T) rfl (.tmp 95) (.tmp 98) rfl rfl rfl (by rfl) (by exact Nat.le_trans hnx.size hb1.size) hLl2 hT1.flip ?_; intro v2 w2 hT3 hb2))
          go_roundw
          case rel => exact ⟨off + A, by omega, by go_num, L ++ [(A, T)], by rw [List.map_append, List.map_append, HL1.out, HL2.out]; exact hT3.flip, (below_from_drewN hnx hb1).trans hb2, HS2.out⟩
          case measure => simp [intOf]; omega
      · go_wp2_with fail
        go_loopw [9, 10, 11] (fun v u o wr => ∃ off : Nat, off ≤ d.length ∧ o = .int .i64 off ∧ LRel w3 d v u off wr) (fun _ _ o _ => d.length - (intOf o).toNat)
        case atStart => exact ⟨off, by omega, rfl, L, hT, hnx, hS⟩
        case round =>
          clear hT hnx hS ho hlt 
          obtain ⟨off, ho, rfl, L, hT, hnx, hS⟩ := hrel
          by_cases hlt : off < d.length
          · obtain ⟨b, o, ha, hb, hcell⟩ := hs3 off hlt
            have hrow : ByteRow w3 (some ⟨b, o + off, none⟩) (d.drop off) := row_drop hb hcell
            have hrow' := hrow.below hnx
            have hLl : L.length ≤ 1048576 := Nat.le_trans hS.len (Nat.le_trans (lines_le d) hbig)
            have hS2 := hS.step hlt
            obtain ⟨D, hD⟩ : ∃ D, d.drop off = D := ⟨_, rfl⟩
            have hDl : D.length = d.length - off := by rw [← hD]; simp
            rw [hD] at hrow' hS2
            have hA := adv_pos (d := D) (by omega)
            have hA2 := adv_le D true
            have hT2 := tl_le hA
            have HS := split6_any _ D (d.length - off) true wr (by omega) (by omega) hrow'
            rw [splitVal_pos ⟨rfl, rfl⟩ hA, hDl] at HS
            obtain ⟨A, hAe⟩ : ∃ A, adv D true = A := ⟨_, rfl⟩
            obtain ⟨T, hTe⟩ : ∃ T, tl D = T := ⟨_, rfl⟩
            rw [hAe] at hA hA2 hT2 HS hS2
            rw [hTe] at hT2 HS hS2
            rw [hDl] at hA2
            have HS' : Hid (Calls Try.prog 6 #[.slice (some ⟨b, o + off, none⟩) (d.length - off) (d.length - off), .bool true] wr (Tells wr (.tuple #[.int .i64 A, .slice (some ⟨b, o + off, none⟩) T (d.length - off), .nilIface]))) := HS
            have HDl : Hid (D.length = d.length - off) := hDl
            have hcne : ¬ d.length = off := by omega
            have HS2 : Hid (Sofar d (off + A) (L ++ [(A, T)])) := hS2
            have hLl1 : (L.map Prod.fst).length ≤ 1048576 := by simpa using hLl
            have hLl2 : (L.map Prod.snd).length ≤ 1048576 := by simpa using hLl
            obtain ⟨L1, hL1⟩ : ∃ L1, L.map Prod.fst = L1 := ⟨_, rfl⟩
            obtain ⟨L2, hL2⟩ : ∃ L2, L.map Prod.snd = L2 := ⟨_, rfl⟩
            rw [hL1] at hT hLl1
            rw [hL2] at hT hLl2
            have HL1 : Hid (L.map Prod.fst = L1) := hL1
            have HL2 : Hid (L.map Prod.snd = L2) := hL2
            subst ha
            clear HS hDl hcell hrow hD hAe hTe hS hS2 hL1 hL2 hLl hr6 hr7 hs3
            go_wp2_with fail
            refine Calls.mono HS'.out ?_
            rintro e w' ⟨rfl, m1, rfl⟩
            clear HS'
            go_wp2_with fail
            refine (prefix_any _ D (d.length - off) _ _ T _ (by rw [HDl.out]; omega) HDl.out.symm (by rw [HDl.out]; omega) (by exact hrow')).mono ?_
            rintro e w' ⟨rfl, m2, rfl⟩
            go_wp2_with (first | (at_builtin; refine wpList_pushI (B := w3.heap.size) (L := L1) (M := L2) (x := A) rfl (.tmp 139) (.tmp 141) rfl rfl rfl (by rfl) (by exact hnx.size) hLl1 (hT.drewN _) ?_; intro v1 w1 hT1 hb1) | (at_builtin; refine wpList_pushI (B := w3.heap.size) (L := L2) (M := L1 ++ [A]) (x := T) rfl (.tmp 143) (.tmp 146) rfl rfl rfl (by rfl) (by exact Nat.le_trans hnx.size hb1.size) hLl2 hT1.flip ?_; intro v2 w2 hT3 hb2))
            go_roundw
            case rel => exact ⟨off + A, by omega, by go_num, L ++ [(A, T)], by rw [List.map_append, List.map_append, HL1.out, HL2.out]; exact hT3.flip, (below_from_drewN hnx hb1).trans hb2, HS2.out⟩
            case measure => simp [intOf]; omega
          · have hL : L = lines d := hS.done (by omega)
            subst hL
            rw [HLA.out, HLB.out] at hT
            have hll : LB.length = LA.length := by rw [← HLA.out, ← HLB.out]; simp
            obtain ⟨a9, c9, he9, hr9⟩ := natRow_of hT.fst
            obtain ⟨a10, c10, he10, hr10⟩ := natRow_of hT.snd
            have hr6' := hr6.below hnx
            have hr7' := hr7.below hnx
            have hBF := below_trans hB3 hnx
            have hLAl : LA.length ≤ 1048576 := by rw [← HLA.out]; simp; exact Nat.le_trans (lines_le d) hbig
            have HLL : Hid (LB.length = LA.length) := hll
            clear hT hnx hS hr6 hr7 hB3 hll ho hs3
            subst he9
            subst he10
            have tll : ((LA.length : Int) != (LA.length : Int)) = false := by simp
            go_wp2_with fail
            go_loopw [18] (fun i wr2 => ∃ j n : Nat, j ≤ LA.length ∧ i = .int .i64 j ∧ wr2 = wr.drewN n) (fun i _ => LA.length - (intOf i).toNat)
            case atStart => exact ⟨0, 0, Nat.zero_le _, rfl, rfl⟩
            case round =>
              obtain ⟨j, n, hj, rfl, rfl⟩ := hrel
              by_cases hlj : j < LA.length
              · have hlj2 : j < LB.length := by rw [HLL.out]; exact hlj
                obtain ⟨b6, o6, rfl, _, hc6⟩ := hr6' j hlj
                obtain ⟨b7, o7, rfl, _, hc7⟩ := hr7' j hlj2
                obtain ⟨b9, o9, rfl, _, hc9⟩ := hr9 j hlj
                obtain ⟨b10, o10, rfl, _, hc10⟩ := hr10 j hlj2
                have q6 := hc6 j hlj
                have q7 := hc7 j hlj2
                have q9 := hc9 j hlj
                have q10 := hc10 j hlj2
                obtain ⟨x6, hx6⟩ : ∃ x6, LA.getD j 0 = x6 := ⟨_, rfl⟩
                obtain ⟨x7, hx7⟩ : ∃ x7, LB.getD j 0 = x7 := ⟨_, rfl⟩
                rw [hx6] at q6 q9
                rw [hx7] at q7 q10
                have t6 : ((x6 : Int) != (x6 : Int)) = false := by simp
                have t7 : ((x7 : Int) != (x7 : Int)) = false := by simp
                have hl6 : (j : Int) < (LA.length : Int) := by omega
                have hl7 : (j : Int) < (LB.length : Int) := by omega
                clear hc6 hc7 hc9 hc10 hx6 hx7 hr6' hr7' hr9 hr10
                go_wp2_with fail
                go_quiet (fail)
                go_wp2_with fail
                go_roundw
                case rel => exact ⟨j + 1, _, by omega, by go_num, rfl⟩
                case measure => simp [intOf]; omega
              · go_wp2_with fail
                go_ret
                exact ⟨rfl, below_trans hBF (below_drewN _ _)⟩
end Go.Proofs.Qxb6628546a
