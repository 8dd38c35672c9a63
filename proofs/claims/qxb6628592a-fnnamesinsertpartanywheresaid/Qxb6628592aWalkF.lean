import Derived.Test.Qxb6628592aWords
namespace Go.Proofs.Qxb6628592a
open Go.RowKit

/-- B stands in A from o on. -/
def Stands (A B : List S) (o : Nat) : Prop := o + B.length ≤ A.length ∧ ∀ i, i < B.length → A.getD (o + i) [] = B.getD i []
theorem stands_mid (X B Y : List S) : Stands (X ++ B ++ Y) B X.length := by
  refine ⟨by simp, fun i hi => ?_⟩
  rw [List.getD_eq_getElem?_getD, List.getD_eq_getElem?_getD, List.append_assoc, List.getElem?_append_right (by omega), Nat.add_sub_cancel_left, List.getElem?_append_left hi]

set_option maxHeartbeats 4000000 in
set_option maxRecDepth 100000 in
theorem sameAt_any (a b : Option Addr) (A B : List S) (c cb : Nat) (off : Int) (o : Nat) (w : World) (ho : off = o) (hA : A.length ≤ 1048576) (hS : Stands A B o) (hra : StrRow w a A) (hrb : StrRow w b B) :
    Calls Try.prog 12 #[.slice a A.length c, .int .i64 off, .slice b B.length cb] w (Tells w (.bool true)) := by
  subst ho
  obtain ⟨hlen, hst⟩ := hS
  have HS : Hid (∀ i, i < B.length → A.getD (o + i) [] = B.getD i []) := hst
  clear hst
  go_enter Try.func12, Try.ntmps12
  go_wp2
  go_loopw [7] (fun i wr => ∃ k n : Nat, k ≤ B.length ∧ i = .int .i64 k ∧ wr = w.drewN n) (fun i _ => B.length - (intOf i).toNat)
  case atStart => exact ⟨0, 0, Nat.zero_le _, rfl, rfl⟩
  case round =>
    obtain ⟨k, n, hk, rfl, rfl⟩ := hrel
    by_cases hlt : k < B.length
    · obtain ⟨ba, oa, rfl, hba, hca⟩ := hra (o + k) (by omega)
      obtain ⟨bb, ob, rfl, hbb, hcb⟩ := hrb k hlt
      have h1 := hca (o + k) (by omega)
      have h2 := hcb k hlt
      rw [HS.out k hlt] at h1
      obtain ⟨x, hx⟩ : ∃ x, B.getD k [] = x := ⟨_, rfl⟩
      rw [hx] at h1 h2
      have hlt' : (k : Int) < (B.length : Int) := by omega
      have hlt2 : (o : Int) + (k : Int) < (A.length : Int) := by omega
      have e1 : ((o : Int) + (k : Int)).toNat = o + k := by omega
      clear hca hcb hra hrb hx
      go_wp2
      go_quiet (fail)
      go_wp2
      go_roundw
      case rel => exact ⟨k + 1, _, by omega, by go_num, rfl⟩
      case measure => simp [intOf]; omega
    · go_wp2
      go_ret
      exact ⟨rfl, n, rfl⟩
end Go.Proofs.Qxb6628592a
