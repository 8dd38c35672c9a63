import Derived.Test.Qxb6628546aWords
namespace Go.Proofs.Qxb6628546a
open Go.RowKit

/-- The kit's law of an append on a row of the call's own, with one word more: where the new slice lies. -/
theorem run_append_where {P : Program} (w : World) (base : Nat) (t ty e : TypeId) (i : TypeInfo) (z : Value) (size bytes : Nat) (ht : P.underlying t = some (.slice e)) (hi : P.info? e = some i) (hz : i.zero = some z)
    (hsize : i.size = size) (hby : i.bytes = bytes) (hzs : z.cells.size = size) (hsz : 0 < size)
    (v : Value) (n : Nat) (xs : List Value) (hown : w.ownsRow base e size v n xs)
    (a : Addr) (m c : Nat) (news : List Value) (hl : news.length = m * size) (hnews : ∀ j u, news[j]? = some u → w.cell? (a.add j) = some u) (h1 : ∀ u ∈ news, u.oneCell' = true)
    (h63 : n + m ≤ maxLen) (hbytes : (n + m) * bytes ≤ 140737488355328) (hbase : base ≤ w.heap.size) :
    ∃ v' w', (Builtin.append_ #[t, t] ty #[v, .slice (some a) m c]).run P w = .ok v' w' ∧ w'.ownsRow base e size v' (n + m) (xs ++ news) ∧ w.grownBy w' v.ownBlock ∧
      (v'.ownBlock = v.ownBlock ∨ ∀ j, v'.ownBlock = some j → w.heap.size ≤ j) := by
  obtain ⟨v', w', hr, h2, h3, h4⟩ := run_append_own (P := P) w base t ty e i z size bytes ht hi hz hsize hby hzs hsz v n xs hown a m c news hl hnews h1 h63 hbytes hbase
  refine ⟨v', w', hr, h2, h3, ?_⟩
  rcases hown.2 with ⟨rfl, rfl⟩ | ⟨g, cap, cur, rfl, hbg, hg, hnc, hcm, hcs, htake⟩
  · have hx : xs = [] := List.eq_nil_of_length_eq_zero (by simpa using hown.1)
    subst hx
    obtain ⟨v2, w2, hr2, g2, _, _⟩ := run_append_own (P := P) w w.heap.size t ty e i z size bytes ht hi hz hsize hby hzs hsz _ 0 [] (World.ownsRow_nil w w.heap.size e size) a m c news hl hnews h1 h63 hbytes (Nat.le_refl _)
    rw [hr] at hr2
    cases hr2
    exact .inr fun j hj => (g2.lt j hj).1
  · subst hsize
    subst hby
    by_cases hroom : n + m ≤ cap
    · have hfit : n * i.size + news.length ≤ cur.size := by rw [hl, hcs, ← Nat.add_mul]; exact Nat.mul_le_mul_right _ hroom
      have hr2 := run_append_room (P := P) w t ty e i ht hi g n cap cur hg a m c news hl hnews h1 hroom hfit
      rw [hr] at hr2
      cases hr2
      exact .inl rfl
    · have hr2 := run_append_grow (P := P) w t ty e i z ht hi hz ⟨g, 0, none⟩ n cap xs hown.1 (hown.cells (g := g) rfl) a m c news hl hnews (by omega) (by simp only [maxLen] at h63; omega) (growslice_fits (by omega) hbytes)
      rw [hr] at hr2
      cases hr2
      exact .inr fun j hj => by cases hj; exact Nat.le_refl _

/-- A number in its cell. -/
abbrev iv (n : Nat) : Value := .int .i64 n
theorem Try.info3 : (Try.prog.info? 3).map (fun i => (i.zero, i.size, i.bytes)) = some (some (.int .i64 0), 1, 8) := by kernel_rfl

/-- Two slices of the call's own, on two rows. -/
structure Two (B : Nat) (w : World) (v u : Value) (L M : List Nat) : Prop where
  fst : w.ownsRow B 3 1 v L.length (L.map iv)
  snd : w.ownsRow B 3 1 u M.length (M.map iv)
  apart : ∀ j, v.ownBlock = some j → u.ownBlock ≠ some j
theorem Two.flip {B : Nat} {w : World} {v u : Value} {L M : List Nat} (h : Two B w v u L M) : Two B w u v M L := ⟨h.snd, h.fst, fun j h1 h2 => h.apart j h2 h1⟩
theorem Two.drewN {B : Nat} {w : World} {v u : Value} {L M : List Nat} (h : Two B w v u L M) (n : Nat) : Two B (w.drewN n) v u L M := ⟨h.fst, h.snd, h.apart⟩
theorem below_from_drewN {B n : Nat} {w wr w' : World} (h1 : Below B w wr) (h2 : Below B (wr.drewN n) w') : Below B w w' := h1.trans ⟨h2.os, h2.tape, h2.output, h2.size, h2.block⟩
theorem Two.nil (B : Nat) (w : World) : Two B w (.slice none 0 0) (.slice none 0 0) [] [] := ⟨World.ownsRow_nil _ _ _ _, World.ownsRow_nil _ _ _ _, fun j h => by cases h⟩

/-- 'out = append(out, x)' at the first of two. -/
theorem wpList_pushI {X : World} {ops : Array Oper} {rest : List Oper} {o : Oper} {a : Act} {Q : Exit → Act → World → Prop} {B : Nat} {v u : Value} {L M : List Nat} {x : Nat}
    (hg : o.guard = none) (s y : Operand) (ho : o.op = Op.call { callee := Callee.builtin Builtin.append, args := #[s, y], argTypes := #[31, 31] }) (hv : a.eval s = v)
    {m : Nat} (hy : a.eval y = .slice (some ⟨m, 0, none⟩) 1 1) (hm : m = X.heap.size) (hB : B ≤ X.heap.size) (hn : L.length ≤ 1048576) (hown : Two B X v u L M)
    (hk : ∀ v' w', Two B w' v' u (L ++ [x]) M → Below B X w' → wpList Try.prog ops Q rest (a.put o.dst v') w') :
    wpList Try.prog ops Q (o :: rest) a (X.alloc (.cells #[iv x] 3)) := by
  subst hm
  obtain ⟨i0, hi, hz0, hz1, hz2⟩ := info_parts Try.info3
  have hown1 := hown.fst.alloc (o := .cells #[iv x] 3)
  have hown2 := hown.snd.alloc (o := .cells #[iv x] 3)
  obtain ⟨v', w', hr, h2, h3, h4⟩ := run_append_where (P := Try.prog) (X.alloc (.cells #[iv x] 3)) B 31 o.type 3 i0 (.int .i64 0) 1 8 Try.underlying31 hi hz0 hz1 hz2 rfl (by decide) v L.length (L.map iv) hown1 ⟨X.heap.size, 0, none⟩ 1 1 [iv x] rfl
    (by
      intro j u hj
      match j, hj with
      | 0, hj => simp at hj; subst hj; simp [Addr.add])
    (by intro u hu; simp at hu; subst hu; rfl) (by unfold maxLen; omega) (by omega) (by simp; omega)
  refine wpList_plain hg fun K hK => ?_
  unfold Oper.wp execOp
  simp only [ho, resolve, invoke, builtin, Sem.run_bind, Sem.run_pure, Result.andThen_ok, List.map_toArray, List.map_cons, List.map_nil, hv, hy, hr]
  refine hK _ _ (hk v' w' ⟨by simpa using h2, hown2.kept h3 ?_, ?_⟩ (((Below.refl B X).alloc hB _).grown h3 (by simp; omega) (fun j hj => (hown.fst.lt j hj).1)))
  · cases hu : u.ownBlock with
    | none => exact .inl rfl
    | some j => exact .inr fun hc => hown.apart j hc.symm hu
  · intro j hj hu
    rcases h4 with h4 | h4
    · exact hown.apart j (h4 ▸ hj) hu
    · have h5 := h4 j hj
      have h6 := (hown.snd.lt j hu).2
      simp at h5
      omega

/-- What is owned can be read. -/
theorem cell_of_owns {B : Nat} {w : World} {v : Value} {L : List Nat} (h : w.ownsRow B 3 1 v L.length (L.map iv)) : ∃ a c, v = .slice a L.length c ∧ ∀ j, j < L.length → ∃ b, a = some ⟨b, 0, none⟩ ∧ w.cell? ⟨b, j, none⟩ = some (iv (L.getD j 0)) := by
  rcases h.2 with ⟨rfl, h0⟩ | ⟨g, cap, cur, rfl, hb, hg, h1, h2, h3, h4⟩
  · exact ⟨none, 0, by rw [h0], fun j hj => absurd hj (by omega)⟩
  · refine ⟨_, cap, rfl, fun j hj => ⟨g, rfl, ?_⟩⟩
    rw [h.cellAt j (by simpa using hj)]
    simp [hj]
end Go.Proofs.Qxb6628546a
