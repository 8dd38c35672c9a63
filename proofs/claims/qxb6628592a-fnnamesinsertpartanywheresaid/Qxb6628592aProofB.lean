import Derived.Test.Qxb6628592aFrame
import Derived.Test.Qxb6628592aLawB
namespace Go.Proofs.Qxb6628592a.fnNamesInsertPartAnywhere
open Go.ChangeShapes Go.WideShapes Go.ChangeAt Go.RowKit
open Go.ChangeMaps (open_string shut_string)

set_option maxRecDepth 100000 in
theorem lifted (os : Os) (started : os.Started) (H : Type) (enc : TypeId × Value → H) :
    ReturnsInHanded {} Try.checked os 4 .any (Rows.fnNamesInsertPartAnywhereSpec.pre6 enc Try.prog Try.f4 Rows.fnNamesInsertPartAnywhereRow.domain false) (Rows.fnNamesInsertPartAnywhereSpec.post enc Try.prog Try.f4 false true false false) := by
  refine returnsInHanded_of_change (C := Try.checked) own started (by kernel_rfl) Try.func4
    (ChangeSpec.witness6 (enc := enc) (C := Try.checked) false ⟨#[], #[.slice none 0 0, .agg #[.string ByteArray.empty, .string ByteArray.empty, .string ByteArray.empty, .bool false, .string ByteArray.empty, .bool false, .slice none 0 0], .int .i64 0], []⟩ 8 (by kernel_rfl) (by kernel_rfl) (by kernel_rfl) (by kernel_rfl)) ?_
  intro W base args ds gs before hval0 hW hcnd _
  have hval : ∀ (j : Nat) t v, Try.f4.params[j]? = some t → args[j]? = some v → Value.okWide Try.prog W .any base t v := hval0
  have hW' := hW
  obtain ⟨p, q, hA0, hV, rfl, hfz, hnd⟩ := hW
  have hA : DataW.TrodAll enc Try.prog W 0 (fun _ => true) true Try.f4.params.toList args.toList ds p := hA0
  rw [Try.params4] at hA hval
  obtain ⟨v0, vs0, d0, ds0, p0, q0, hargs, rfl, rfl, h0, r0⟩ := trodAll_cons hA
  obtain ⟨v1, vs1, d1, ds1, p1, q1, rfl, rfl, rfl, h1, r1⟩ := trodAll_cons r0
  obtain ⟨v2, vs2, d2, ds2, p2, q2, rfl, rfl, rfl, h2, r2⟩ := trodAll_cons r1
  obtain ⟨rfl, rfl, rfl⟩ := trodAll_nil r2
  obtain rfl : args = #[v0, v1, v2] := by cases args; simp_all
  obtain ⟨rfl, rfl⟩ := trodVars_none hV
  obtain ⟨a0, len0, cap0, rfl⟩ := okWide_slice Try.underlying22 (hval 0 22 v0 rfl rfl)
  obtain ⟨cs1, rfl, hsz1⟩ := okWide_struct Try.underlying34 (hval 1 34 v1 rfl rfl)
  obtain ⟨i2, rfl, rfl, rfl, w2⟩ := open_int Try.underlying3 (hval 2 3 v2 rfl rfl) h2
  obtain ⟨ps, hl0, hm0, hr0, hnil0⟩ := pRow_read h0
  have h1k := h1
  obtain ⟨m1, hf1⟩ := h1
  obtain ⟨P, hP1, hP2⟩ := part_of hf1
  have hPv : Value.agg cs1 = P.val := by
    have : cs1.toList = [.string P.l, .string P.f, .string P.s, .bool P.nm, .string P.ie, .bool P.rs, .slice P.na P.names.length P.nc] := by simpa [Value.cells] using hP1
    have h2 : cs1 = #[.string P.l, .string P.f, .string P.s, .bool P.nm, .string P.ie, .bool P.rs, .slice P.na P.names.length P.nc] := by rw [← Array.toArray_toList (xs := cs1), this]
    rw [h2]
  have lt0 := lt_of_trod h0
  have lt1 := lt_of_trod h1k
  subst hl0
  clear hA0 hval0
  have hwalk := lawB_walk a0 cap0 ps P i2 W hm0 hr0 hP2 hnil0
  rw [← hPv] at hwalk
  refine hwalk.mono fun e W' ⟨he, bel⟩ => ?_
  subst he
  exact ⟨_, rfl, _, _, _, [], _, [], hW', trodAll_mk1 (shut_bool Try.underlying4 _),
    (trodAll_cons_mk (Below.trod laidOut (by kernel_rfl) (of_decide_eq_true (by kernel_rfl)) h0 bel lt0) (trodAll_cons_mk (Below.trod laidOut (by kernel_rfl) (of_decide_eq_true (by kernel_rfl)) h1k bel lt1) (trodAll_cons_mk (shut_int Try.underlying3 w2) trodAll_mk0))),
    rfl, bel.frame _, fun h => by cases h⟩

theorem over : Rows.fnNamesInsertPartAnywhereRow.holds Try.pinned (OpenSpec.ofChange Rows.fnNamesInsertPartAnywhereSpec) :=
  OpenClaim.holds_of_wide 4 Try.f4 rfl rfl rfl rfl rfl rfl rfl ⟨rfl, rfl, rfl, rfl, rfl⟩ rfl rfl rfl rfl rfl (by kernel_rfl) Try.func4 (by kernel_rfl)
    (of_decide_eq_true (by kernel_rfl)) (by unfold Func.isWrapper; first | (rw [if_pos (by decide +kernel)]; kernel_rfl) | (rw [if_neg (by decide +kernel)]; exact ⟨rfl, rfl⟩))
    (fun os started H enc _ => lifted os started H enc)

theorem proved : Rows.FnNamesInsertPartAnywhereSaid := over
end Go.Proofs.Qxb6628592a.fnNamesInsertPartAnywhere

namespace Go.Proofs.Qxb6628592a
/-- THE STATEMENT. -/
theorem insertPart_proved : Rows.FnNamesInsertPartAnywhereSaid := fnNamesInsertPartAnywhere.proved
end Go.Proofs.Qxb6628592a
