import Derived.Test.Qxb6628592aWalkD
namespace Go.Proofs.Qxb6628592a
open Go.RowKit

/-- 'names = append(names, p.names...)'. -/
theorem wpList_pushAll {X : World} {ops : Array Oper} {rest : List Oper} {o : Oper} {a : Act} {Q : Exit → Act → World → Prop} {B : Nat} {v : Value} {out ns : List S} {na : Option Addr} {nc : Nat}
    (hg : o.guard = none) (s y : Operand) (ho : o.op = Op.call { callee := Callee.builtin Builtin.append, args := #[s, y], argTypes := #[27, 27] }) (hv : a.eval s = v)
    (hy : a.eval y = .slice na ns.length nc) (hnil : na = none → ns.length = 0 ∧ nc = 0) (hrow : StrRow X na ns) (hB : B ≤ X.heap.size) (hn : out.length + ns.length ≤ 1048576) (hown : X.ownsRow B 9 1 v out.length (out.map enc))
    (hk : ∀ v' w', w'.ownsRow B 9 1 v' (out ++ ns).length ((out ++ ns).map enc) → Below B X w' → wpList Try.prog ops Q rest (a.put o.dst v') w') :
    wpList Try.prog ops Q (o :: rest) a X := by
  obtain ⟨i0, hi, hz0, hz1, hz2⟩ := info_parts Try.info9
  cases na with
  | none =>
    obtain ⟨h0, rfl⟩ := hnil rfl
    have : ns = [] := List.length_eq_zero_iff.1 h0
    subst this
    refine wpList_append_own_none hg s y 27 ho B 9 i0 1 Try.underlying27 hi v out.length (out.map enc) hv hown hy ?_
    exact hk v X (by simpa using hown) (Below.refl _ _)
  | some x =>
    refine wpList_append_own _ hg s y 27 ho B 9 i0 (.string ByteArray.empty) 1 16 Try.underlying27 hi hz0 hz1 hz2 rfl (by decide) v out.length (out.map enc) hv hown x ns.length nc (ns.map enc) hy (by simp) ?_ ?_ (by unfold maxLen; omega) (by omega) hB ?_
    · intro j u hj
      rw [List.getElem?_map] at hj
      have hjl : j < ns.length := by
        rcases Nat.lt_or_ge j ns.length with h | h
        · exact h
        · rw [List.getElem?_eq_none h] at hj; cases hj
      obtain ⟨b, off, hx, _, hc⟩ := hrow j hjl
      cases hx
      have e : (⟨b, off, none⟩ : Addr).add j = ⟨b, off + j, none⟩ := by unfold Addr.add; split <;> simp_all
      rw [e, hc j hjl]
      rw [List.getElem?_eq_getElem hjl] at hj
      simp at hj
      simp [hjl, ← hj]
    · intro u hu; simp at hu; obtain ⟨z, _, rfl⟩ := hu; rfl
    · intro v' w' hown' hgrow _
      refine hk v' w' (by rw [List.length_append, List.map_append]; exact hown') ((Below.refl B X).grown hgrow hB (fun j hj => (hown.lt j hj).1))

/-- What Names leaves. -/
def Named (w : World) (N : List S) (e : Ending) (w' : World) : Prop := ∃ v, e = .returned v ∧ w'.ownsRow w.heap.size 9 1 v N.length (N.map enc) ∧ Below w.heap.size w w'

theorem flat_snoc {ps : List PartV} {k : Nat} {p : PartV} (h : ps[k]? = some p) : flat (ps.take (k + 1)) = flat (ps.take k) ++ p.names := by
  unfold flat
  rw [List.take_add_one, h]
  simp
theorem flat_len_take (ps : List PartV) (k : Nat) : (flat (ps.take k)).length ≤ (flat ps).length := by
  have : flat ps = flat (ps.take k) ++ flat (ps.drop k) := by
    unfold flat; rw [← List.flatMap_append, List.take_append_drop]
  rw [this]; simp

set_option maxHeartbeats 4000000 in
set_option maxRecDepth 100000 in
theorem names_any (t : Nat) (a : Option Addr) (c : Nat) (ps : List PartV) (w : World) (hp : PRow w a ps) (ht : w.cell? ⟨t, 0, none⟩ = some (.slice a ps.length c)) (hn : ps.length ≤ 65537) (hf : (flat ps).length ≤ 1048576) :
    Calls Try.prog 10 #[.pointer (some ⟨t, 0, none⟩)] w (Named w (flat ps)) := by
  go_enter Try.func10, Try.ntmps10
  go_wp2
  clear ht
  go_loopw [3, 11] (fun v i wr => ∃ (k : Nat) (T : List S), k ≤ ps.length ∧ i = .int .i64 k ∧ wr.ownsRow w.heap.size 9 1 v T.length (T.map enc) ∧ Below w.heap.size w wr ∧ Hid (T = flat (ps.take k))) (fun _ i _ => ps.length - (intOf i).toNat)
  case atStart => exact ⟨0, [], Nat.zero_le _, rfl, World.ownsRow_nil _ _ _ _, below_refl _, hid (by simp [flat])⟩
  case round =>
    obtain ⟨k, T, hk, rfl, hown, hnx, HT⟩ := hrel
    by_cases hlt : k < ps.length
    · obtain ⟨b, off, rfl, hb, hc⟩ := hp k hlt
      obtain ⟨p, hpk⟩ : ∃ p, ps[k]? = some p := ⟨_, List.getElem?_eq_getElem hlt⟩
      obtain ⟨hat, hok⟩ := hc k p hpk
      obtain ⟨c0, c1, c2, c3, c4, c5, c6⟩ := hat.below hnx hb
      have hsn := flat_snoc hpk
      have hle := flat_len_take ps (k + 1)
      rw [hsn, ← HT.out] at hle
      have HSN : Hid (flat (ps.take (k + 1)) = T ++ p.names) := hid (by rw [hsn, HT.out])
      have hrow := hok.row.below hnx
      have hnil := hok.nil
      obtain ⟨l, f, s, nm, ie, rs, na, nc, names⟩ := p
      simp only at c0 c1 c2 c3 c4 c5 c6 hrow hnil hle HSN
      have hlen : T.length + names.length ≤ 1048576 := by simp at hle; omega
      have HNIL : Hid (na = none → names.length = 0 ∧ nc = 0) := hnil
      clear hc hp hat hok hpk hsn hle hnil HT
      go_wp2_with (at_builtin; go_must (refine wpList_pushAll (B := w.heap.size) (out := T) (ns := names) rfl _ _ rfl rfl rfl HNIL.out (hrow.below (below_alloc _ _)) (by have := hnx.size; simp; omega) hlen (hown.alloc _) ?_); intro v' w' hown' hb')
      go_roundw
      case rel => exact ⟨k + 1, T ++ names, by omega, by go_num, hown', (hnx.alloc hnx.size _).trans hb', hid HSN.out.symm⟩
      case measure => simp [intOf]; omega
    · obtain rfl : k = ps.length := by omega
      go_wp2
      go_ret
      refine ⟨_, rfl, ?_, hnx⟩
      have hT := HT.out
      rw [List.take_length] at hT
      rw [← hT]; exact hown

theorem flat_mid_len (ps : List PartV) (k l : Nat) : (flat ((ps.take k).drop l)).length ≤ (flat ps).length := by
  have h1 : flat (ps.take k) = flat ((ps.take k).take l) ++ flat ((ps.take k).drop l) := by
    unfold flat; rw [← List.flatMap_append, List.take_append_drop]
  have h2 := flat_len_take ps k
  rw [h1] at h2
  simp at h2
  omega
theorem count_step {ps : List PartV} {k l : Nat} {p : PartV} (h : ps[k]? = some p) (hl : l ≤ k) : (flat ((ps.take (k + 1)).drop l)).length = (flat ((ps.take k).drop l)).length + p.names.length := by
  have hk : k < ps.length := (List.getElem?_eq_some_iff.1 h).1
  rw [List.take_add_one, h, List.drop_append_of_le_length (by simp; omega)]
  simp [flat]

set_option maxHeartbeats 4000000 in
set_option maxRecDepth 100000 in
theorem count_any (a : Option Addr) (c : Nat) (ps : List PartV) (lo hi : Int) (l h : Nat) (w : World) (hp : PRow w a ps) (hlo : lo = l) (hhi : hi = h) (hlh : l ≤ h) (hh : h ≤ ps.length) (hn : ps.length ≤ 65537) (hf : (flat ps).length ≤ 1048576) (r : Nat) (hr : r = (flat ((ps.take h).drop l)).length) :
    Calls Try.prog 11 #[.slice a ps.length c, .int .i64 lo, .int .i64 hi] w (Tells w (.int .i64 r)) := by
  subst hlo hhi
  have HR : Hid (r = (flat ((ps.take h).drop l)).length) := hr
  clear hr
  go_enter Try.func11, Try.ntmps11
  go_wp2
  go_loop [7, 8] (fun n i => ∃ (k m : Nat), l ≤ k ∧ k ≤ h ∧ i = .int .i64 k ∧ n = .int .i64 m ∧ Hid (m = (flat ((ps.take k).drop l)).length) ∧ m ≤ 1048576) (fun _ i => h - (intOf i).toNat)
  case atStart => exact ⟨l, 0, Nat.le_refl _, hlh, rfl, rfl, hid (by rw [show (ps.take l).drop l = [] by simp]; rfl), by omega⟩
  case round =>
    obtain ⟨k, m, hlk, hkh, rfl, rfl, HM, hm⟩ := hrel
    by_cases hlt : k < h
    · obtain ⟨b, off, rfl, hb, hc⟩ := hp k (by omega)
      obtain ⟨p, hpk⟩ : ∃ p, ps[k]? = some p := ⟨_, List.getElem?_eq_getElem (by omega)⟩
      obtain ⟨hat, hok⟩ := hc k p hpk
      have c6 := hat.h6
      have hst := count_step (l := l) hpk hlk
      have hle : (flat ((ps.take (k + 1)).drop l)).length ≤ 1048576 := Nat.le_trans (flat_mid_len ps (k + 1) l) hf
      have HST : Hid ((flat ((ps.take (k + 1)).drop l)).length = (flat ((ps.take k).drop l)).length + p.names.length) := hst
      rw [hst, ← HM.out] at hle
      obtain ⟨l', f, s, nm, ie, rs, na, nc, names⟩ := p
      simp only at c6 hle
      clear hc hp hat hok hpk hst
      go_wp2
      go_round
      case rel => exact ⟨k + 1, m + names.length, by omega, by omega, by go_num, by go_num, hid (by rw [HST.out, ← HM.out]), by omega⟩
      case measure => simp [intOf]; omega
    · obtain rfl : k = h := by omega
      have : m = r := by rw [HR.out, HM.out]
      subst this
      go_wp2
      go_ret
      exact ⟨rfl, 0, rfl⟩
end Go.Proofs.Qxb6628592a
