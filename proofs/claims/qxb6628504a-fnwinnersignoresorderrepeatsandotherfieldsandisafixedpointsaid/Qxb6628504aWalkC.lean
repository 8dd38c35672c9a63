import Derived.Test.Qxb6628504aWords
namespace Go.Proofs.Qxb6628504a
open Go.RowKit

/-- What zzMergeUnion leaves: a slice of the call's own that holds the merged union. -/
def Merged (w : World) (sa sb : List S) (e : Ending) (w' : World) : Prop :=
  ∃ out v, e = .returned v ∧ w'.ownsRow w.heap.size 9 1 v out.length (out.map enc) ∧ Below w.heap.size w w' ∧ MInv sa sb sa.length sb.length out

def MRel (w : World) (sa sb : List S) (v : Value) (i j : Nat) (wr : World) : Prop :=
  ∃ out, wr.ownsRow w.heap.size 9 1 v out.length (out.map enc) ∧ Below w.heap.size w wr ∧ MInv sa sb i j out

theorem merge_a {sa sb out : List S} {i j : Nat} {x y : S} (h : MInv sa sb i j out) (ha : Asc sa) (hb : Asc sb) (hi : i < sa.length) (hj : j < sb.length) (hx : sa.getD i [] = x) (hy : sb.getD j [] = y) (hxy : Op.bytesLess x y = true) : MInv sa sb (i + 1) j (out ++ [x]) := by
  rw [bytesLess_eq, decide_eq_true_eq] at hxy
  subst hx hy
  exact h.pushA ha hi (lt_drop hb hj hxy)
theorem merge_b {sa sb out : List S} {i j : Nat} {x y : S} (h : MInv sa sb i j out) (ha : Asc sa) (hb : Asc sb) (hi : i < sa.length) (hj : j < sb.length) (hx : sa.getD i [] = x) (hy : sb.getD j [] = y) (hxy : Op.bytesLess y x = true) : MInv sa sb i (j + 1) (out ++ [y]) := by
  rw [bytesLess_eq, decide_eq_true_eq] at hxy
  subst hx hy
  exact h.pushB hb hj (lt_drop ha hi hxy)
theorem merge_eq {sa sb out : List S} {i j : Nat} {x y : S} (h : MInv sa sb i j out) (ha : Asc sa) (hb : Asc sb) (hi : i < sa.length) (hj : j < sb.length) (hx : sa.getD i [] = x) (hy : sb.getD j [] = y) (hxy : Op.bytesLess x y = false) (hyx : Op.bytesLess y x = false) : MInv sa sb (i + 1) (j + 1) (out ++ [x]) := by
  rw [bytesLess_eq, decide_eq_false_iff_not] at hxy hyx
  have e := eq_of hxy hyx
  subst hx hy
  exact h.pushAB ha hb hi hj e

set_option maxHeartbeats 2000000 in
theorem merge_any (a b : Option Addr) (sa sb : List S) (ca cb : Nat) (w : World) (hna : sa.length ≤ 65536) (hnb : sb.length ≤ 65536) (ha : StrRow w a sa) (hb : StrRow w b sb) (asca : Asc sa) (ascb : Asc sb) :
    Calls Try.prog 10 #[.slice a sa.length ca, .slice b sb.length cb] w (Merged w sa sb) := by
  obtain ⟨i0, hi, hz0, hz1, hz2⟩ := info_parts Try.info9
  go_enter Try.func10, Try.ntmps10
  go_wp2_with (at_make; refine wpList_make_own _ rfl _ _ 22 rfl w.heap.size 9 i0 (.string ByteArray.empty) 1 Try.underlying22 hi hz0 hz1 .i64 .i64 _ (sa.length + sb.length) rfl rfl (by simp) (by rw [hz2]; omega) (by unfold maxLen; omega) (Nat.le_refl _) ?_; intro w1 hown hgrow)
  have hbel : Below w.heap.size w w1 := (Below.refl _ _).grown hgrow (Nat.le_refl _) (fun k h => by cases h)
  go_loopw [5, 6, 7] (fun v i j wr => ∃ ki kj : Nat, ki ≤ sa.length ∧ kj ≤ sb.length ∧ i = .int .i64 ki ∧ j = .int .i64 kj ∧ MRel w sa sb v ki kj wr) (fun _ i j _ => sa.length + sb.length - (intOf i).toNat - (intOf j).toNat)
  case atStart => exact ⟨0, 0, Nat.zero_le _, Nat.zero_le _, rfl, rfl, [], hown, hbel, MInv.start _ _⟩
  case round =>
    clear hown hgrow hbel
    obtain ⟨ki, kj, hki, hkj, rfl, rfl, out, hown, hnx, hM⟩ := hrel
    have hlen := hM.len
    by_cases hli : ki < sa.length
    · by_cases hlj : kj < sb.length
      · obtain ⟨ba, offa, rfl, hba, hca⟩ := ha ki hli
        obtain ⟨bb, offb, rfl, hbb, hcb⟩ := hb kj hlj
        have h1 := (hnx.cell (p := ⟨ba, offa + ki, none⟩) hba).trans (hca ki hli)
        have h2 := (hnx.cell (p := ⟨bb, offb + kj, none⟩) hbb).trans (hcb kj hlj)
        have hli' : (ki : Int) < (sa.length : Int) := by omega
        have hlj' : (kj : Int) < (sb.length : Int) := by omega
        obtain ⟨x, hx⟩ : ∃ x, sa.getD ki [] = x := ⟨_, rfl⟩
        obtain ⟨y, hy⟩ : ∃ y, sb.getD kj [] = y := ⟨_, rfl⟩
        rw [hx] at h1
        rw [hy] at h2
        have HX : Hid (sa.getD ki [] = x) := hx
        have HY : Hid (sb.getD kj [] = y) := hy
        clear hca hcb ha hb hx hy
        cases hxy : Op.bytesLess x y
        · cases hyx : Op.bytesLess y x
          · go_wp2
            go_quiet (fail)
            go_wp2
            go_quiet (fail)
            go_wp2_with (at_builtin; go_must (refine wpList_push (B := w.heap.size) (out := out) rfl _ _ rfl rfl rfl (by rfl) (by exact hnx.size) (by omega) (by exact hown) ?_); intro v' w' hown' hb')
            go_roundw
            case rel => exact ⟨ki + 1, kj + 1, by omega, by omega, by go_num, by go_num, out ++ [x], hown', below_from_drewN hnx hb', merge_eq hM asca ascb hli hlj HX.out HY.out hxy hyx⟩
            case measure => simp [intOf]; omega
          · go_wp2
            go_quiet (fail)
            go_wp2
            go_quiet (fail)
            go_wp2_with (at_builtin; go_must (refine wpList_push (B := w.heap.size) (out := out) rfl _ _ rfl rfl rfl (by rfl) (by exact hnx.size) (by omega) (by exact hown) ?_); intro v' w' hown' hb')
            go_roundw
            case rel => exact ⟨ki, kj + 1, by omega, by omega, rfl, by go_num, out ++ [y], hown', below_from_drewN hnx hb', merge_b hM asca ascb hli hlj HX.out HY.out hyx⟩
            case measure => simp [intOf]; omega
        · go_wp2
          go_quiet (fail)
          go_wp2_with (at_builtin; go_must (refine wpList_push (B := w.heap.size) (out := out) rfl _ _ rfl rfl rfl (by rfl) (by exact hnx.size) (by omega) (by exact hown) ?_); intro v' w' hown' hb')
          go_roundw
          case rel => exact ⟨ki + 1, kj, by omega, by omega, by go_num, rfl, out ++ [x], hown', below_from_drewN hnx hb', merge_a hM asca ascb hli hlj HX.out HY.out hxy⟩
          case measure => simp [intOf]; omega
      · have hex : Hid (ki = sa.length ∨ kj = sb.length) := (show ki = sa.length ∨ kj = sb.length by omega)
        go_wp2
        try clear hlj
        clear hli hlen
        go_loopw [5, 6] (fun v i wr => ∃ kq : Nat, kq ≤ sa.length ∧ (kq = sa.length ∨ kj = sb.length) ∧ i = .int .i64 kq ∧ MRel w sa sb v kq kj wr) (fun _ i _ => sa.length - (intOf i).toNat)
        case atStart => exact ⟨ki, hki, hex.out, rfl, out, hown, hnx, hM⟩
        case round =>
          clear hown hnx hM hex hki
          obtain ⟨kq, hkq, hex, rfl, out, hown, hnx, hM⟩ := hrel
          have hlen := hM.len
          by_cases hlq : kq < sa.length
          · obtain ⟨ba, offa, rfl, hba, hca⟩ := ha kq hlq
            have h1 := (hnx.cell (p := ⟨ba, offa + kq, none⟩) hba).trans (hca kq hlq)
            obtain ⟨x, hx⟩ : ∃ x, sa.getD kq [] = x := ⟨_, rfl⟩
            rw [hx] at h1
            have HX : Hid (sa.getD kq [] = x) := hx
            clear hca ha hb hx
            have hj : kj = sb.length := by omega
            have HJ : Hid (kj = sb.length) := hj
            clear hj hex
            go_wp2_with (at_builtin; go_must (refine wpList_push (B := w.heap.size) (out := out) rfl _ _ rfl rfl rfl (by rfl) (by exact hnx.size) (by omega) (by exact hown) ?_); intro v' w' hown' hb')
            go_roundw
            case rel => exact ⟨kq + 1, by omega, .inr HJ.out, by go_num, out ++ [x], hown', hnx.trans hb', HX.out ▸ hM.pushA asca hlq (by rw [HJ.out, List.drop_length]; simp)⟩
            case measure => simp [intOf]; omega
          · obtain rfl : kq = sa.length := by omega
            clear hlq hex hlen hkq
            go_wp2
            go_loopw [5, 7] (fun v j wr => ∃ kq : Nat, kq ≤ sb.length ∧ j = .int .i64 kq ∧ MRel w sa sb v sa.length kq wr) (fun _ j _ => sb.length - (intOf j).toNat)
            case atStart => exact ⟨kj, hkj, rfl, out, hown, hnx, hM⟩
            case round =>
              clear hown hnx hM hkj
              obtain ⟨kq, hkq, rfl, out, hown, hnx, hM⟩ := hrel
              have hlen := hM.len
              by_cases hlq : kq < sb.length
              · obtain ⟨bb, offb, rfl, hbb, hcb⟩ := hb kq hlq
                have h1 := (hnx.cell (p := ⟨bb, offb + kq, none⟩) hbb).trans (hcb kq hlq)
                obtain ⟨x, hx⟩ : ∃ x, sb.getD kq [] = x := ⟨_, rfl⟩
                rw [hx] at h1
                have HX : Hid (sb.getD kq [] = x) := hx
                clear hcb ha hb hx
                go_wp2_with (at_builtin; go_must (refine wpList_push (B := w.heap.size) (out := out) rfl _ _ rfl rfl rfl (by rfl) (by exact hnx.size) (by omega) (by exact hown) ?_); intro v' w' hown' hb')
                go_roundw
                case rel => exact ⟨kq + 1, by omega, by go_num, out ++ [x], hown', hnx.trans hb', HX.out ▸ hM.pushB ascb hlq (by rw [List.drop_length]; simp)⟩
                case measure => simp [intOf]; omega
              · obtain rfl : kq = sb.length := by omega
                go_wp2
                go_ret
                exact ⟨out, _, rfl, hown, hnx, hM⟩
    · have hex : Hid (ki = sa.length ∨ kj = sb.length) := (show ki = sa.length ∨ kj = sb.length by omega)
      go_wp2
      try clear hlj
      clear hli hlen
      go_loopw [5, 6] (fun v i wr => ∃ kq : Nat, kq ≤ sa.length ∧ (kq = sa.length ∨ kj = sb.length) ∧ i = .int .i64 kq ∧ MRel w sa sb v kq kj wr) (fun _ i _ => sa.length - (intOf i).toNat)
      case atStart => exact ⟨ki, hki, hex.out, rfl, out, hown, hnx, hM⟩
      case round =>
        clear hown hnx hM hex hki
        obtain ⟨kq, hkq, hex, rfl, out, hown, hnx, hM⟩ := hrel
        have hlen := hM.len
        by_cases hlq : kq < sa.length
        · obtain ⟨ba, offa, rfl, hba, hca⟩ := ha kq hlq
          have h1 := (hnx.cell (p := ⟨ba, offa + kq, none⟩) hba).trans (hca kq hlq)
          obtain ⟨x, hx⟩ : ∃ x, sa.getD kq [] = x := ⟨_, rfl⟩
          rw [hx] at h1
          have HX : Hid (sa.getD kq [] = x) := hx
          clear hca ha hb hx
          have hj : kj = sb.length := by omega
          have HJ : Hid (kj = sb.length) := hj
          clear hj hex
          go_wp2_with (at_builtin; go_must (refine wpList_push (B := w.heap.size) (out := out) rfl _ _ rfl rfl rfl (by rfl) (by exact hnx.size) (by omega) (by exact hown) ?_); intro v' w' hown' hb')
          go_roundw
          case rel => exact ⟨kq + 1, by omega, .inr HJ.out, by go_num, out ++ [x], hown', hnx.trans hb', HX.out ▸ hM.pushA asca hlq (by rw [HJ.out, List.drop_length]; simp)⟩
          case measure => simp [intOf]; omega
        · obtain rfl : kq = sa.length := by omega
          clear hlq hex hlen hkq
          go_wp2
          go_loopw [5, 7] (fun v j wr => ∃ kq : Nat, kq ≤ sb.length ∧ j = .int .i64 kq ∧ MRel w sa sb v sa.length kq wr) (fun _ j _ => sb.length - (intOf j).toNat)
          case atStart => exact ⟨kj, hkj, rfl, out, hown, hnx, hM⟩
          case round =>
            clear hown hnx hM hkj
            obtain ⟨kq, hkq, rfl, out, hown, hnx, hM⟩ := hrel
            have hlen := hM.len
            by_cases hlq : kq < sb.length
            · obtain ⟨bb, offb, rfl, hbb, hcb⟩ := hb kq hlq
              have h1 := (hnx.cell (p := ⟨bb, offb + kq, none⟩) hbb).trans (hcb kq hlq)
              obtain ⟨x, hx⟩ : ∃ x, sb.getD kq [] = x := ⟨_, rfl⟩
              rw [hx] at h1
              have HX : Hid (sb.getD kq [] = x) := hx
              clear hcb ha hb hx
              go_wp2_with (at_builtin; go_must (refine wpList_push (B := w.heap.size) (out := out) rfl _ _ rfl rfl rfl (by rfl) (by exact hnx.size) (by omega) (by exact hown) ?_); intro v' w' hown' hb')
              go_roundw
              case rel => exact ⟨kq + 1, by omega, by go_num, out ++ [x], hown', hnx.trans hb', HX.out ▸ hM.pushB ascb hlq (by rw [List.drop_length]; simp)⟩
              case measure => simp [intOf]; omega
            · obtain rfl : kq = sb.length := by omega
              go_wp2
              go_ret
              exact ⟨out, _, rfl, hown, hnx, hM⟩
end Go.Proofs.Qxb6628504a
