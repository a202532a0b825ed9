/-
  'Rows.FnTakeRunKeepsFreeRunsSortedDisjointAndCountedSaid', proved: the row's step over the walk.
-/
import Derived.Test.Qxb6602657aRows
import Derived.Test.Qxb6602657aKeepsWalk
import Derived.Test.Qxb6602657aOpenRuns
import Derived.WalkKit
import Derived.ProofKit
import Derived.OpenShut
import Derived.ChangeOld
import Derived.Below
namespace Go.Proofs.Qxb6602657a.fnTakeRunKeepsFreeRunsSortedDisjointAndCounted
open Go.ChangeShapes Go.WideShapes Go.ChangeAt Go.RowKit
set_option linter.unusedVariables false

theorem own : ownKnob Try.prog.godebug = none := by kernel_rfl
theorem laidOut : laidOutB Try.prog = true := by kernel_rfl

/-- THE WALK, all ways together. -/
theorem walk (a : Option Addr) (n c : Nat) (i m : Int) (w : World) (w1 : (Lit.int .i64 i).wf = true) (w2 : (Lit.int .u32 m).wf = true) (hr : IsRuns w a n) :
    Calls Try.prog 6 #[.slice a n c, .int .i64 i, .int .u32 m] w fun e w' => e = .returned (.bool true) ∧ Below w.heap.size w w' := by
  by_cases h1 : 65536 < n
  · exact early_long a n c i m w h1
  by_cases h2 : i < 0 ∨ (n : Int) ≤ i
  · exact early_out a n c i m w (by omega) h2
  obtain ⟨k, rfl⟩ := Int.eq_ofNat_of_zero_le (show 0 ≤ i by omega)
  have hk : k < n := by omega
  obtain ⟨b, off, S, P, rfl, hb, hR, hB⟩ := hr (by omega)
  obtain ⟨⟨s0, s1⟩, p0, p1⟩ := hB k hk
  obtain ⟨m0, m1⟩ := bounds_u32 w2
  by_cases h3 : P k < m
  · exact early_few b off n c k m S P w (by omega) hk hR h3
  · exact main b off n c k m S P w (by omega) hb hR hB hk m0 (by omega)

/-! ### THE ROW's STEP -/
set_option maxRecDepth 100000 in
theorem lifted (os : Os) (started : os.Started) (H : Type) (enc : TypeId × Value → H) :
    ReturnsInHanded {} Try.checked os 6 .any (Rows.fnTakeRunKeepsFreeRunsSortedDisjointAndCountedSpec.pre6 enc Try.prog Try.f6 Rows.fnTakeRunKeepsFreeRunsSortedDisjointAndCountedRow.domain false) (Rows.fnTakeRunKeepsFreeRunsSortedDisjointAndCountedSpec.post enc Try.prog Try.f6 false true false false) := by
  refine returnsInHanded_of_change (C := Try.checked) own started (by kernel_rfl) Try.func6
    (ChangeSpec.witness6 (enc := enc) (C := Try.checked) false ⟨#[], #[.slice none 0 0, .int .i64 0, .int .u32 0], []⟩ 8 (by kernel_rfl) (by kernel_rfl) (by kernel_rfl) (by kernel_rfl)) ?_
  intro W base args ds gs before hval0 hW hcnd _
  have hval : ∀ (j : Nat) t v, Try.f6.params[j]? = some t → args[j]? = some v → Value.okWide Try.prog W .any base t v := hval0
  have hW' := hW
  obtain ⟨p, q, hA0, hV, rfl, hfz, hnd⟩ := hW
  have hA : DataW.TrodAll enc Try.prog W 0 (fun _ => true) true Try.f6.params.toList args.toList ds p := hA0
  rw [Try.params6] at hA hval
  obtain ⟨v0, vs0, d0, ds0, p0, q0, hargs, rfl, rfl, h0, r0⟩ := trodAll_cons hA
  obtain ⟨v1, vs1, d1, ds1, p1, q1, rfl, rfl, rfl, h1, r1⟩ := trodAll_cons r0
  obtain ⟨v2, vs2, d2, ds2, p2, q2, rfl, rfl, rfl, h2, r2⟩ := trodAll_cons r1
  obtain ⟨rfl, rfl, rfl⟩ := trodAll_nil r2
  obtain rfl : args = #[v0, v1, v2] := by cases args; simp_all
  obtain ⟨rfl, rfl⟩ := trodVars_none hV
  obtain ⟨a1, rfl, rfl, rfl, w1⟩ := open_int Try.underlying3 (hval 1 3 v1 rfl rfl) h1
  obtain ⟨a2, rfl, rfl, rfl, w2⟩ := open_int Try.underlying43 (hval 2 43 v2 rfl rfl) h2
  obtain ⟨a0, len0, cap0, rfl⟩ := okWide_slice Try.underlying42 (hval 0 42 v0 rfl rfl)
  have k0 := h0
  have lt0 : ∀ x ∈ p0, x.block < W.heap.size := by obtain ⟨m, hm⟩ := k0; exact DataW.trod_lt m _ _ _ hm
  have hr : IsRuns W a0 len0 := by
    obtain ⟨fuel, hf⟩ := h0
    exact open_runs (by simpa [Value.cells] using hf)
  clear hA0 hval0
  refine (walk a0 len0 cap0 a1 a2 W w1 w2 hr).mono fun e W' ⟨he, bel⟩ => ?_
  subst he
  exact ⟨_, rfl, _, _, _, [], _, [], hW', trodAll_mk1 (shut_bool Try.underlying4 _), (trodAll_cons_mk (Below.trod laidOut (by kernel_rfl) (of_decide_eq_true (by kernel_rfl)) k0 bel lt0) (trodAll_cons_mk (shut_int Try.underlying3 w1) (trodAll_cons_mk (shut_int Try.underlying43 w2) trodAll_mk0))), rfl, bel.frame _, fun h => by cases h⟩

theorem over : Rows.fnTakeRunKeepsFreeRunsSortedDisjointAndCountedRow.holds Try.pinned (OpenSpec.ofChange Rows.fnTakeRunKeepsFreeRunsSortedDisjointAndCountedSpec) :=
  OpenClaim.holds_of_wide 6 Try.f6 rfl rfl rfl rfl rfl rfl rfl ⟨rfl, rfl, rfl, rfl, rfl⟩ rfl rfl rfl rfl rfl (by kernel_rfl) Try.func6 (by kernel_rfl)
    (of_decide_eq_true (by kernel_rfl)) (by unfold Func.isWrapper; first | (rw [if_pos (by decide +kernel)]; kernel_rfl) | (rw [if_neg (by decide +kernel)]; exact ⟨rfl, rfl⟩))
    (fun os started H enc _ => lifted os started H enc)

/-- THE STATEMENT -/
theorem proved : Rows.FnTakeRunKeepsFreeRunsSortedDisjointAndCountedSaid := over
end Go.Proofs.Qxb6602657a.fnTakeRunKeepsFreeRunsSortedDisjointAndCounted
