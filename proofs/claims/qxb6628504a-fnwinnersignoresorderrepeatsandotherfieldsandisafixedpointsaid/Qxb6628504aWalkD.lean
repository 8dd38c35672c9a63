import Derived.Test.Qxb6628504aWalkB
namespace Go.Proofs.Qxb6628504a
open Go.RowKit

theorem Try.info4 : (Try.prog.info? 4).map (fun i => (i.zero, i.size, i.bytes)) = some (some (.bool false), 1, 1) := by kernel_rfl

/-- It says yes; nothing old has turned. -/
def Yes (w : World) (e : Ending) (w' : World) : Prop := e = .returned (.bool true) ∧ Below w.heap.size w w'

/-- The flags, in memory. -/
def HRel (w : World) (ws banks : List S) (g : Nat) (k : Nat) (wr : World) : Prop :=
  ∃ hs : List Bool, wr.ownsRow w.heap.size 4 1 (.slice (some ⟨g, 0, none⟩) ws.length ws.length) ws.length (hs.map Value.bool) ∧ Below w.heap.size w wr ∧ HInv ws banks k hs

theorem asc_test {ws : List S} {k : Nat} (ha : Asc ws) (hk : k + 1 < ws.length) : Op.bytesLess (ws.getD k []) (ws.getD (k + 1) []) = true := by
  rw [bytesLess_eq, decide_eq_true_eq]
  exact asc_get ha (Nat.lt_succ_self _) hk

theorem hits_start {w w1 : World} {ws banks : List S} {n : Nat} (hown : w1.ownsRow w.heap.size 4 1 (.slice (some ⟨w.heap.size, 0, none⟩) ws.length ws.length) ws.length (madeCells (Value.bool false).cells (ws.length * 1)).toList) (hgrow : (w.drewN n).grownBy w1 none) : HRel w ws banks w.heap.size 0 w1 := by
  refine ⟨List.replicate ws.length false, ?_, below_from_drewN (Below.refl _ _) ((Below.refl w.heap.size (w.drewN n)).grown hgrow (Nat.le_refl _) (fun k h => by cases h)), HInv.start _ _⟩
  have e : (madeCells (Value.bool false).cells (ws.length * 1)).toList = (List.replicate ws.length false).map Value.bool := by
    show (madeCells #[Value.bool false] _).toList = _
    rw [toList_madeCells_one]; simp
  rw [← e]; exact hown

theorem hits_cell {w wr : World} {ws banks : List S} {g k j : Nat} (h : HRel w ws banks g k wr) (hj : j < ws.length) : ∃ bv, wr.cell? ⟨g, j, none⟩ = some (.bool bv) := by
  obtain ⟨hs, hown, _, hH⟩ := h
  have hl := hH.len
  have hcc := hown.cellAt j (by simpa using hj)
  rw [List.getElem?_map, List.getElem?_eq_getElem (by omega)] at hcc
  exact ⟨_, hcc⟩
theorem hits_all {w wr : World} {n g k : Nat} {hs : List Bool} (hown : wr.ownsRow w.heap.size 4 1 (.slice (some ⟨g, 0, none⟩) n n) n (hs.map Value.bool)) (hl : hs.length = n) (ha : ∀ t, t < n → hs.getD t false = true) (hk : k < n) : wr.cell? ⟨g, k, none⟩ = some (.bool true) := by
  have hcc := hown.cellAt k (by simpa using hk)
  have := ha k hk
  rw [List.getElem?_map, List.getElem?_eq_getElem (by omega)] at hcc
  rw [hcc]
  simp [hl, hk] at this
  simp [this]
theorem hits_step {w wr : World} {ws banks : List S} {k j m : Nat} (h : HRel w ws banks w.heap.size k wr) (ha : Asc ws) (hk : k < banks.length) (hj : j < ws.length) (he : ws.getD j [] = banks.getD k []) : HRel w ws banks w.heap.size (k + 1) ((wr.drewN m).setCell ⟨w.heap.size, j, none⟩ (.bool true)) := by
  obtain ⟨hs, hown, hb, hH⟩ := h
  refine ⟨hs.set j true, ?_, ?_, hH.step ha hk hj he⟩
  · have := (hown.stored j (.bool true)).1
    rw [List.map_set]; exact this
  · exact (hb.setCell (Nat.le_refl _) _).trans ⟨rfl, rfl, rfl, Nat.le_refl _, fun _ _ => rfl⟩

set_option maxHeartbeats 2000000 in
set_option maxRecDepth 100000 in
theorem distinct_any (a b : Option Addr) (ws banks : List S) (c cb : Nat) (w : World) (hn : banks.length ≤ 65536) (hwn : ws.length ≤ banks.length) (ha : StrRow w a ws) (hb : StrRow w b banks) (asc : Asc ws) (hm : ∀ x, x ∈ ws ↔ x ∈ banks) :
    Calls Try.prog 11 #[.slice a ws.length c, .slice b banks.length cb] w (Yes w) := by
  obtain ⟨i0, hi, hz0, hz1, hz2⟩ := info_parts Try.info4
  have HM : Hid (∀ x, x ∈ ws ↔ x ∈ banks) := hm
  clear hm
  go_enter Try.func11, Try.ntmps11
  go_wp2
  go_loopw [5] (fun i wr => ∃ k n : Nat, (k ≤ ws.length ∨ k = 1) ∧ 1 ≤ k ∧ i = .int .i64 k ∧ wr = w.drewN n) (fun i _ => ws.length - (intOf i).toNat)
  case atStart => exact ⟨1, 0, .inr rfl, Nat.le_refl _, rfl, rfl⟩
  case round =>
    obtain ⟨k, n, hk, hk1, rfl, rfl⟩ := hrel
    by_cases hlt : k < ws.length
    · obtain ⟨ba, offa, rfl, hba, hca⟩ := ha k hlt
      obtain ⟨q, rfl⟩ : ∃ q, k = q + 1 := ⟨k - 1, by omega⟩
      have h1 := hca q (by omega)
      have h2 := hca (q + 1) hlt
      have ht := asc_test asc hlt
      obtain ⟨x, hx⟩ : ∃ x, ws.getD q [] = x := ⟨_, rfl⟩
      obtain ⟨y, hy⟩ : ∃ y, ws.getD (q + 1) [] = y := ⟨_, rfl⟩
      rw [hx] at h1 ht
      rw [hy] at h2 ht
      have hlt' : (q : Int) + 1 < (ws.length : Int) := by omega
      clear hca ha hb hx hy hk
      go_wp2
      go_quiet (fail)
      go_wp2
      go_roundw
      case rel => exact ⟨q + 2, _, .inl (by omega), by omega, by go_num, rfl⟩
      case measure => simp [intOf]; omega
    · clear hk
      go_wp2_with (at_make; go_must (refine wpList_make_full _ rfl _ _ 46 rfl w.heap.size 4 i0 (.bool false) 1 Try.underlying46 hi hz0 hz1 .i64 .i64 _ _ ws.length rfl rfl rfl rfl (by rw [hz2]; omega) (by unfold maxLen; omega) (by exact Nat.le_refl _) ?_); intro w1 hown hgrow)
      have hst : HRel w ws banks w.heap.size 0 w1 := hits_start (n := n) hown hgrow
      clear hown hgrow
      go_loopw [7] (fun i wr => ∃ k : Nat, k ≤ banks.length ∧ i = .int .i64 k ∧ HRel w ws banks w.heap.size k wr) (fun i _ => banks.length - (intOf i).toNat)
      case atStart => exact ⟨0, Nat.zero_le _, rfl, hst⟩
      case round =>
        clear hst
        obtain ⟨k, hk, rfl, hR⟩ := hrel
        have hR' := hR
        obtain ⟨hs, hown, hnx, hH⟩ := hR'
        by_cases hkl : k < banks.length
        · obtain ⟨bb, offb, rfl, hbb, hcb⟩ := hb k hkl
          have h1 := (hnx.cell (p := ⟨bb, offb + k, none⟩) hbb).trans (hcb k hkl)
          obtain ⟨j, hj, hje⟩ := mem_index ((HM.out _).2 (getD_mem hkl))
          have hcall := search_any a ws c j wr (by omega) (ha.below hnx) hj asc _ hje
          obtain ⟨x, hx⟩ : ∃ x, banks.getD k [] = x := ⟨_, rfl⟩
          rw [hx] at h1 hcall
          have HX : Hid (ws.getD j [] = banks.getD k []) := hje
          clear hcb hx hje ha hb
          obtain ⟨bv, hcc⟩ := hits_cell hR hj
          have hfz := hown.frozenAt j
          clear hown hH hs
          have HC : Hid (Calls Try.prog 15 #[.slice a ws.length c, .string ⟨x.toArray⟩] wr (Tells wr (.int .i64 j))) := hcall
          clear hcall
          go_wp2_with fail
          refine Calls.mono HC.out ?_
          rintro e w2 ⟨rfl, m, rfl⟩
          go_wp2_with fail
          go_roundw
          case rel => exact ⟨k + 1, by omega, by go_num, hits_step hR asc hkl hj HX.out⟩
          case measure => simp [intOf]; omega
        · obtain rfl : k = banks.length := by omega
          have hall := hH.done (Nat.le_refl _) (fun x hx => (HM.out x).1 hx)
          have HA : Hid (∀ t, t < ws.length → hs.getD t false = true) := hall
          have hl : Hid (hs.length = ws.length) := hH.len
          clear hall hR hk hkl hH
          go_wp2
          go_loop [9] (fun i => ∃ k : Nat, k ≤ ws.length ∧ i = .int .i64 k) (fun i => ws.length - (intOf i).toNat)
          case atStart => exact ⟨0, Nat.zero_le _, rfl⟩
          case round =>
            obtain ⟨k, hk, rfl⟩ := hrel
            by_cases hkl : k < ws.length
            · have hcc : wr.cell? ⟨w.heap.size, k, none⟩ = some (.bool true) := hits_all hown hl.out HA.out hkl
              clear hown
              go_wp2
              go_round
              case rel => exact ⟨k + 1, by omega, by go_num⟩
              case measure => simp [intOf]; omega
            · go_wp2
              go_ret
              exact ⟨rfl, hnx⟩
end Go.Proofs.Qxb6628504a
