/-
  FROM THE ROW's READING TO WHAT THE WALKS ASK: a []Part and a Part that came in.
-/
import Derived.Test.Qxb6628592aRows
import Derived.Test.Qxb6628592aWords
import Derived.ProofKit
import Derived.OpenShut
import Derived.ShutString
import Derived.ChangeOld
import Derived.Below
import Derived.Deep.Slices
namespace Go.Proofs.Qxb6628592a
open Go.ChangeShapes Go.WideShapes Go.ChangeAt Go.RowKit Go.Deep
open Go.ChangeMaps (open_string shut_string)

theorem own : ownKnob Try.prog.godebug = none := by kernel_rfl
theorem laidOut : laidOutB Try.prog = true := by kernel_rfl
theorem cells9 : Try.prog.cellsOf 9 = 1 := by kernel_rfl
theorem cells4 : Try.prog.cellsOf 4 = 1 := by kernel_rfl
theorem cells27 : Try.prog.cellsOf 27 = 1 := by kernel_rfl
theorem cells34 : Try.prog.cellsOf 34 = 7 := by kernel_rfl

theorem cell_lt {w : World} {b o : Nat} {v : Value} (h : w.cell? ⟨b, o, none⟩ = some v) : b < w.heap.size := by
  rcases Nat.lt_or_ge b w.heap.size with h1 | h1
  · exact h1
  · simp [World.cell?, Array.getElem?_eq_none h1] at h

theorem strRow_of {H : Type} {enc : TypeId × Value → H} {W : World} {v : Value} {fuel : Nat} {x : DataW H × List MemPlace}
    (hf : DataW.trod enc Try.prog W 0 (fun _ => true) true fuel 27 [v] = some x) : ∃ (a : Option Addr) (ss : List S) (c : Nat), v = .slice a ss.length c ∧ ss.length ≤ maxLen ∧ ss.length ≤ c ∧ StrRow W a ss ∧ (a = none → ss.length = 0 ∧ c = 0) ∧ ∀ t, t < ss.length → (ss.getD t []).length ≤ maxLen := by
  rcases open_strings Try.underlying27 Try.underlying9 cells9 hf with ⟨hcs, _⟩ | ⟨x, l, c, zs, hcs, _, hl, hm, hz, _, hcell, hws⟩
  · simp at hcs
    exact ⟨none, [], 0, hcs, Nat.zero_le _, Nat.le_refl _, StrRow.nil _ _, fun _ => ⟨rfl, rfl⟩, fun t h => absurd h (by simp)⟩
  · simp at hcs
    simp only [if_true] at hz
    have hlen : ((zs.take l).map (·.data.toList)).length = l := by simp; omega
    refine ⟨some x, (zs.take l).map (·.data.toList), c, by rw [hlen]; exact hcs, by omega, by omega, fun j hj => ?_, fun h => (by cases h), fun t ht => ?_⟩
    · rw [hlen] at hj
      obtain ⟨b, off, spot⟩ := x
      have hspot : spot = none := by simpa [Addr.add] using World.cell?_spot (hcell 0 (by omega))
      subst hspot
      have hc : ∀ t, t < zs.length → W.cell? ⟨b, off + t, none⟩ = some (.string (zs.getD t ByteArray.empty)) := fun t ht => by rw [← add_plain]; exact hcell t ht
      refine ⟨b, off, rfl, cell_lt (hc 0 (by omega)), fun t ht => ?_⟩
      rw [hlen] at ht
      rw [hc t (by omega)]
      have h1 : t < zs.length := by omega
      simp [h1, ht]
    · rw [hlen] at ht
      have h1 : t < zs.length := by omega
      have := hws zs[t] (List.getElem_mem h1)
      simpa [h1, ht] using this

theorem list7 {α : Type} {l : List α} (h : l.length = 7) : ∃ c0 c1 c2 c3 c4 c5 c6, l = [c0, c1, c2, c3, c4, c5, c6] := by
  match l, h with
  | [c0, c1, c2, c3, c4, c5, c6], _ => exact ⟨c0, c1, c2, c3, c4, c5, c6, rfl⟩

theorem part_of {H : Type} {enc : TypeId × Value → H} {W : World} {cs : List Value} {fuel : Nat} {x : DataW H × List MemPlace}
    (hf : DataW.trod enc Try.prog W 0 (fun _ => true) true fuel 34 cs = some x) : ∃ p : PartV, cs = [.string p.l, .string p.f, .string p.s, .bool p.nm, .string p.ie, .bool p.rs, .slice p.na p.names.length p.nc] ∧ p.Ok W := by
  obtain ⟨xs, n, _, _, hlen, hxl, hfs⟩ := DataW.trod_struct Try.underlying34 hf
  rw [cells34] at hlen
  obtain ⟨c0, c1, c2, c3, c4, c5, c6, rfl⟩ := list7 hlen
  obtain ⟨y0, y1, y2, y3, y4, y5, y6, rfl⟩ := list7 (hxl.trans rfl)
  have f0 := hfs 0 _ rfl
  have f1 := hfs 1 _ rfl
  have f2 := hfs 2 _ rfl
  have f3 := hfs 3 _ rfl
  have f4 := hfs 4 _ rfl
  have f5 := hfs 5 _ rfl
  have f6 := hfs 6 _ rfl
  simp [cells9, cells4, cells27] at f0 f1 f2 f3 f4 f5 f6
  obtain ⟨l, e0, _, k0⟩ := DataW.trod_string Try.underlying9 f0
  obtain ⟨f, e1, _, k1⟩ := DataW.trod_string Try.underlying9 f1
  obtain ⟨s, e2, _, k2⟩ := DataW.trod_string Try.underlying9 f2
  obtain ⟨nm, e3, _⟩ := DataW.trod_bool Try.underlying4 f3
  obtain ⟨ie, e4, _, k4⟩ := DataW.trod_string Try.underlying9 f4
  obtain ⟨rs, e5, _⟩ := DataW.trod_bool Try.underlying4 f5
  obtain ⟨na, ns, nc, e6, k6, k7, hrow, hnil, hl5⟩ := strRow_of f6
  simp at e0 e1 e2 e3 e4 e5
  exact ⟨⟨l, f, s, nm, ie, rs, na, nc, ns⟩, by rw [e0, e1, e2, e3, e4, e5, e6], ⟨hrow, k7, hnil, k6, k0, k1, k2, k4, hl5⟩⟩

theorem pRow_read {H : Type} {enc : TypeId × Value → H} {W : World} {a : Option Addr} {len cap : Nat} {d : DataW H} {pl : List MemPlace}
    (h : DataW.Trod enc Try.prog W 0 (fun _ => true) true 22 (.slice a len cap) d pl) : ∃ ps : List PartV, ps.length = len ∧ len ≤ maxLen ∧ PRow W a ps ∧ (a = none → len = 0) := by
  obtain ⟨fuel, hf⟩ := h
  rcases open_slice Try.underlying22 hf with ⟨hcs, _⟩ | ⟨x, l, c, m, n, D, Pl, hcs, _, hl, hm, hmm, _, hel⟩
  · simp [Value.cells] at hcs
    obtain ⟨rfl, rfl, rfl⟩ := hcs
    exact ⟨[], rfl, Nat.zero_le _, fun j hj => absurd hj (by simp), fun _ => rfl⟩
  · simp [Value.cells] at hcs
    obtain ⟨rfl, rfl, rfl⟩ := hcs
    simp only [if_true] at hmm
    rw [cells34] at hel
    have hex : ∀ i, i < len → ∃ p : PartV, p.Ok W ∧ W.cells? 0 (x.add (i * 7)) 7 = some [.string p.l, .string p.f, .string p.s, .bool p.nm, .string p.ie, .bool p.rs, .slice p.na p.names.length p.nc] := fun i hi => by
      obtain ⟨cs', h1, h2⟩ := hel i (by omega)
      obtain ⟨p, hp1, hp2⟩ := part_of h2
      exact ⟨p, hp2, by rw [← hp1]; exact h1⟩
    have hinh : Inhabited PartV := ⟨⟨ByteArray.empty, ByteArray.empty, ByteArray.empty, false, ByteArray.empty, false, none, 0, []⟩⟩
    obtain ⟨F, hF⟩ := choose_lt (α := PartV) (p := fun i p => p.Ok W ∧ W.cells? 0 (x.add (i * 7)) 7 = some [.string p.l, .string p.f, .string p.s, .bool p.nm, .string p.ie, .bool p.rs, .slice p.na p.names.length p.nc]) hex
    refine ⟨(List.range len).map F, by simp, by omega, fun j hj => ?_, fun h => by cases h⟩
    simp only [List.length_map, List.length_range] at hj
    obtain ⟨b, off, spot⟩ := x
    have hspot : spot = none := by
      obtain ⟨_, hc⟩ := hF 0 (by omega)
      obtain ⟨_, _, hc⟩ := World.cells?_some hc
      have := World.cell?_spot ((hc 0 (by omega)).trans rfl)
      simpa [Addr.add] using this
    subst hspot
    have hat : ∀ t, t < len → PartAt W b (off + t * 7) (F t) ∧ (F t).Ok W := fun t ht => by
      obtain ⟨hok, hc⟩ := hF t ht
      obtain ⟨_, _, hc⟩ := World.cells?_some hc
      have e : ∀ i, ((⟨b, off, none⟩ : Addr).add (t * 7)).add i = ⟨b, off + t * 7 + i, none⟩ := fun i => by rw [add_plain, add_plain]
      exact ⟨⟨by have := hc 0 (by omega); rw [e] at this; exact this, by have := hc 1 (by omega); rw [e] at this; exact this, by have := hc 2 (by omega); rw [e] at this; exact this, by have := hc 3 (by omega); rw [e] at this; exact this, by have := hc 4 (by omega); rw [e] at this; exact this, by have := hc 5 (by omega); rw [e] at this; exact this, by have := hc 6 (by omega); rw [e] at this; exact this⟩, hok⟩
    refine ⟨b, off, rfl, cell_lt (hat 0 (by omega)).1.h0, fun t p ht => ?_⟩
    have htl : t < len := by
      have := (List.getElem?_eq_some_iff.1 ht).1
      simpa using this
    have : p = F t := by
      rw [List.getElem?_map, List.getElem?_range htl] at ht
      simpa using ht.symm
    subst this
    exact hat t htl

theorem lt_of_trod {H : Type} {enc : TypeId × Value → H} {W : World} {t : TypeId} {v : Value} {d : DataW H} {p : List MemPlace} (h : DataW.Trod enc Try.prog W 0 (fun _ => true) true t v d p) : ∀ x ∈ p, x.block < W.heap.size := by
  obtain ⟨m, hm⟩ := h
  exact DataW.trod_lt m _ _ _ hm
end Go.Proofs.Qxb6628592a
