/-
  A slice of entries, and a slice of changes, that came in: opened: what the walk of the law over merge is told of them.
-/
import Derived.Test.Qxb6602657aRows
import Derived.Test.Qxb6602657aBytes
import Derived.ProofKit
import Derived.OpenShut
import Derived.Deep.SlicePairs
namespace Go.Proofs.Qxb6602657a
open Go.ChangeShapes Go.WideShapes Go.ChangeAt Go.RowKit Go.Deep

theorem Try.cells5 : Try.prog.cellsOf 5 = 1 := by kernel_rfl
theorem Try.cells33 : Try.prog.cellsOf 33 = 1 := by kernel_rfl
theorem Try.cells38 : Try.prog.cellsOf 38 = 2 := by kernel_rfl
theorem Try.cells40 : Try.prog.cellsOf 40 = 3 := by kernel_rfl
theorem Try.cells4 : Try.prog.cellsOf 4 = 1 := by kernel_rfl

theorem open_bytes {H : Type} {enc : TypeId × Value → H} {W : World} {fuel : Nat} {v : Value} {x : DataW H × List MemPlace}
    (h : DataW.trod enc Try.prog W 0 (fun _ => true) true fuel 33 [v] = some x) : ∃ l, BytesAt W v l := by
  rcases open_ints Try.underlying33 Try.underlying5 Try.cells5 h with ⟨hcs, _⟩ | ⟨a, len, cap, zs, hcs, _, hl, hm, hz, _, hcell, hwz⟩
  · simp at hcs
    subst hcs
    exact ⟨[], BytesAt.nil W⟩
  · simp at hcs
    subst hcs
    simp only [if_true] at hz
    have hlen : ((zs.take len).map fun z => UInt8.ofNat z.toNat).length = len := by simp; omega
    refine ⟨(zs.take len).map fun z => UInt8.ofNat z.toNat, some a, cap, by rw [hlen], by rw [hlen]; unfold maxLen at hm; omega, ?_⟩
    by_cases h0 : len = 0
    · left
      exact List.length_eq_zero_iff.1 (by rw [hlen]; exact h0)
    · right
      obtain ⟨b, off, spot⟩ := a
      have hspot : spot = none := by simpa [Addr.add] using World.cell?_spot (hcell 0 (by omega))
      subst hspot
      refine ⟨b, off, rfl, fun j y hy => ?_⟩
      have hj : j < len := by
        have := (List.getElem?_eq_some_iff.1 hy).1
        rwa [hlen] at this
      have hc := hcell j (by omega)
      rw [add_plain] at hc
      rw [hc]
      have hjz : j < zs.length := by omega
      have hy2 : y = UInt8.ofNat (zs[j]).toNat := by
        rw [List.getElem?_map, Option.map_eq_some_iff] at hy
        obtain ⟨z, hz', rfl⟩ := hy
        have : (zs.take len)[j]? = some zs[j] := by rw [List.getElem?_take, if_pos hj, List.getElem?_eq_getElem hjz]
        rw [this] at hz'
        simp at hz'
        rw [hz']
      obtain ⟨b0, b1⟩ := bounds_u8 (hwz zs[j] (List.getElem_mem hjz))
      have hget : zs.getD j 0 = zs[j] := by simp [List.getD, List.getElem?_eq_getElem hjz]
      rw [hget, hy2]
      congr 2
      rw [UInt8.toNat_ofNat']
      omega

theorem open_ents {H : Type} {enc : TypeId × Value → H} {W : World} {fuel : Nat} {a : Option Addr} {n c : Nat} {x : DataW H × List MemPlace}
    (h : DataW.trod enc Try.prog W 0 (fun _ => true) true fuel 22 [.slice a n c] = some x) : ∃ E, EntsAt W (.slice a n c) E := by
  rcases open_slice_pairs Try.underlying22 Try.underlying38 Try.cells38 rfl rfl Try.cells33 Try.cells33 h with ⟨hcs, _⟩ | ⟨ad, len, cap, m, q, V0, V1, D0, D1, P0, P1, hcs, _, hl, hm, hmm, _, hx⟩
  · simp at hcs
    obtain ⟨rfl, rfl, rfl⟩ := hcs
    exact ⟨[], none, 0, rfl, by simp, by simp, .inl rfl⟩
  simp at hcs
  obtain ⟨rfl, rfl, rfl⟩ := hcs
  simp only [if_true] at hmm
  subst hmm
  have each : ∀ i, i < n → ∃ e : List UInt8 × List UInt8, BytesAt W (V0 i) e.1 ∧ BytesAt W (V1 i) e.2 := by
    intro i hi
    obtain ⟨_, _, t0, t1⟩ := hx i (by omega)
    obtain ⟨l0, h0⟩ := open_bytes t0
    obtain ⟨l1, h1⟩ := open_bytes t1
    exact ⟨(l0, l1), h0, h1⟩
  obtain ⟨e, he⟩ := choose_lt each
  have hlen : ((List.range n).map e).length = n := by simp
  refine ⟨(List.range n).map e, some ad, m, by rw [hlen], by rw [hlen]; exact hl, by unfold maxLen at hm; omega, ?_⟩
  by_cases h0 : n = 0
  · left
    exact List.length_eq_zero_iff.1 (by rw [hlen]; exact h0)
  · right
    obtain ⟨b, off, spot⟩ := ad
    have hspot : spot = none := by simpa [Addr.add] using World.cell?_spot (hx 0 (by omega)).1
    subst hspot
    refine ⟨b, off, rfl, fun j y hy => ?_⟩
    have hj : j < n := by
      have := (List.getElem?_eq_some_iff.1 hy).1
      rwa [hlen] at this
    obtain ⟨c0, c1, _, _⟩ := hx j (by omega)
    rw [add_plain] at c0 c1
    have hy2 : e j = y := by simpa [hj] using hy
    subst hy2
    exact ⟨V0 j, V1 j, c0, by rw [Nat.add_assoc]; exact c1, (he j hj).1, (he j hj).2⟩

theorem open_chgs {H : Type} {enc : TypeId × Value → H} {W : World} {fuel : Nat} {a : Option Addr} {n c : Nat} {x : DataW H × List MemPlace}
    (h : DataW.trod enc Try.prog W 0 (fun _ => true) true fuel 23 [.slice a n c] = some x) : ∃ C, ChgsAt W (.slice a n c) C := by
  rcases open_slice Try.underlying23 h with ⟨hcs, _⟩ | ⟨ad, len, cap, m, q, D, Pl, hcs, _, hl, hm, hmm, _, hx⟩
  · simp at hcs
    obtain ⟨rfl, rfl, rfl⟩ := hcs
    exact ⟨[], none, 0, rfl, by simp, by simp, .inl rfl⟩
  simp at hcs
  obtain ⟨rfl, rfl, rfl⟩ := hcs
  simp only [if_true] at hmm
  subst hmm
  have each : ∀ i, i < n → ∃ z : (Value × Value) × (List UInt8 × List UInt8 × Bool), W.cell? (ad.add (i * 3)) = some z.1.1 ∧ W.cell? (ad.add (i * 3 + 1)) = some z.1.2 ∧ W.cell? (ad.add (i * 3 + 2)) = some (.bool z.2.2.2) ∧ BytesAt W z.1.1 z.2.1 ∧ BytesAt W z.1.2 z.2.2.1 := by
    intro i hi
    obtain ⟨cs', h1, h2⟩ := hx i (by omega)
    rw [Try.cells40] at h1
    obtain ⟨_, hlen, hcell⟩ := World.cells?_some h1
    obtain ⟨xs, k, hk, hxy, _, hxl, hf⟩ := DataW.trod_struct Try.underlying40 h2
    match xs, hxl, cs', hlen with
    | [y0, y1, y2], _, [v0, v1, v2], _ =>
      have g0 := hf 0 _ rfl
      have g1 := hf 1 _ rfl
      have g2 := hf 2 _ rfl
      simp [Try.cells33, Try.cells4] at g0 g1 g2
      have e0 := hcell 0 (by omega)
      have e1 := hcell 1 (by omega)
      have e2 := hcell 2 (by omega)
      rw [add_add] at e0 e1 e2
      obtain ⟨l0, b0⟩ := open_bytes g0
      obtain ⟨l1, b1⟩ := open_bytes g1
      obtain ⟨t, ht, _⟩ := DataW.trod_bool Try.underlying4 g2
      simp at ht
      subst ht
      exact ⟨((v0, v1), (l0, l1, t)), by simpa using e0, by simpa using e1, by simpa using e2, b0, b1⟩
  obtain ⟨z, hz⟩ := choose_lt each
  have hlen : ((List.range n).map fun i => (z i).2).length = n := by simp
  refine ⟨(List.range n).map fun i => (z i).2, some ad, m, by rw [hlen], by rw [hlen]; exact hl, by unfold maxLen at hm; omega, ?_⟩
  by_cases h0 : n = 0
  · left
    exact List.length_eq_zero_iff.1 (by rw [hlen]; exact h0)
  · right
    obtain ⟨b, off, spot⟩ := ad
    have hspot : spot = none := by simpa [Addr.add] using World.cell?_spot (hz 0 (by omega)).1
    subst hspot
    refine ⟨b, off, rfl, fun j y hy => ?_⟩
    have hj : j < n := by
      have := (List.getElem?_eq_some_iff.1 hy).1
      rwa [hlen] at this
    obtain ⟨c0, c1, c2, b0, b1⟩ := hz j hj
    rw [add_plain] at c0 c1 c2
    have hy2 : (z j).2 = y := by simpa [hj] using hy
    subst hy2
    exact ⟨(z j).1.1, (z j).1.2, c0, by rw [Nat.add_assoc]; exact c1, by rw [Nat.add_assoc]; exact c2, b0, b1⟩
end Go.Proofs.Qxb6602657a
