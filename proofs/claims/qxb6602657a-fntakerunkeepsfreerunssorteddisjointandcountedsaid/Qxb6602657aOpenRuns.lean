/-
  A slice of runs that came in, opened: what the walks of the two laws over takeRun are told of it.
-/
import Derived.Test.Qxb6602657aRows
import Derived.Test.Qxb6602657aMem
import Derived.ProofKit
import Derived.OpenShut
import Derived.Deep.SlicePairs
namespace Go.Proofs.Qxb6602657a
open Go.ChangeShapes Go.WideShapes Go.ChangeAt Go.RowKit Go.Deep

theorem Try.cells53 : Try.prog.cellsOf 53 = 2 := by kernel_rfl
theorem Try.cells46 : Try.prog.cellsOf 46 = 1 := by kernel_rfl
theorem Try.cells43 : Try.prog.cellsOf 43 = 1 := by kernel_rfl

/-- Of a slice that has elements: it leads to runs, each number within its kind. -/
def IsRuns (w : World) (a : Option Addr) (n : Nat) : Prop :=
  0 < n → ∃ (b off : Nat) (S P : Nat → Int), a = some ⟨b, off, none⟩ ∧ b < w.heap.size ∧ RunsAt w b off n S P ∧ ∀ j, j < n → (0 ≤ S j ∧ S j ≤ 18446744073709551615) ∧ (0 ≤ P j ∧ P j ≤ 4294967295)

theorem open_runs {H : Type} {enc : TypeId × Value → H} {W : World} {fuel : Nat} {a : Option Addr} {n c : Nat} {x : DataW H × List MemPlace}
    (h : DataW.trod enc Try.prog W 0 (fun _ => true) true fuel 42 [.slice a n c] = some x) : IsRuns W a n := by
  intro hn
  rcases open_slice_pairs Try.underlying42 Try.underlying53 Try.cells53 rfl rfl Try.cells46 Try.cells43 h with ⟨hcs, _⟩ | ⟨ad, len, cap, m, q, V0, V1, D0, D1, P0, P1, hcs, _, hl, _, hmm, _, hx⟩
  · simp at hcs
    omega
  simp at hcs
  obtain ⟨rfl, rfl, rfl⟩ := hcs
  simp only [if_true] at hmm
  subst hmm
  have each : ∀ i, i < n → ∃ z : Int × Int, W.cell? (ad.add (i * 2)) = some (.int .u64 z.1) ∧ W.cell? (ad.add (i * 2 + 1)) = some (.int .u32 z.2) ∧ (Lit.int .u64 z.1).wf = true ∧ (Lit.int .u32 z.2).wf = true := by
    intro i hi
    obtain ⟨h0, h1, t0, t1⟩ := hx i (by omega)
    obtain ⟨s, e0, _, ws⟩ := DataW.trod_int Try.underlying46 t0
    obtain ⟨p, e1, _, wp⟩ := DataW.trod_int Try.underlying43 t1
    simp at e0 e1
    rw [e0] at h0
    rw [e1] at h1
    exact ⟨(s, p), h0, h1, ws, wp⟩
  obtain ⟨z, hz⟩ := choose_lt each
  obtain ⟨b, off, spot⟩ := ad
  have hspot : spot = none := by simpa [Addr.add] using World.cell?_spot (hz 0 hn).1
  subst hspot
  refine ⟨b, off, fun i => (z i).1, fun i => (z i).2, rfl, ?_, ?_, ?_⟩
  · have := block_lt_of_cell (hz 0 hn).1
    simpa [Addr.add] using this
  · intro i hi
    have h0 := (hz i hi).1
    have h1 := (hz i hi).2.1
    rw [add_plain] at h0 h1
    exact ⟨h0, by rw [Nat.add_assoc]; exact h1⟩
  · intro i hi
    exact ⟨bounds_u64 (hz i hi).2.2.1, bounds_u32 (hz i hi).2.2.2⟩
end Go.Proofs.Qxb6602657a
