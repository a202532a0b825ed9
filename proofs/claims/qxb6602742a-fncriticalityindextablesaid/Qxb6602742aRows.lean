/-
  No cell of these rows narrows 'for every input' (looked for: loops, veiled, ifaces, maps, wideKeys, modest, calm, conditions, laid).
  DERIVED. THE GIVEN ROWS OF THIS SEAT. 4 by the template 'for every input the law returns true; each argument reads behind the call as it read before'; 0 by the template 'total and deterministic' (their statements: Qxb6602742aTotals.lean).
  GIVEN WITH THE SEED: the statements are not yours to turn. If you find one false, say at which input.
  Laid BY PROGRAM, IN A SANDBOX (cutbox-rows.mjs): the forced cells as the released guide's own fill.sh prints them over the translation e05ec9fe210b3a97… (all of the seat's roots in one cut). By AI agents, Wed Nov 11 2026. No macro, syntax, notation, axiom, sorry.
-/
import Derived.Test.Qxb6602742aChecked
import GoSem.Claim
import GoSem.ClaimJoined
import GoSem.ClaimMapViews
import Derived.JoinedTies
import Derived.KernelRfl
namespace Go.Proofs.Qxb6602742a
/- THE CELL 'sum', in the pinned program and in every row, IS THE sha256 OF THE DUMP (.gsa) THAT Qxb6602742aProg.lean LOADS. Nothing in Lean hashes anything: it is a label: what it is worth is what the hold of that sum in a sandbox is worth. -/
noncomputable def Try.pinned : Pinned := { name := "qxb6602742a", sum := "e05ec9fe210b3a9764066aa820045a3e08464b93de67fafe8897675a43f06662", checked := Try.checked }
namespace Rows
def none {H : Type} : Left H := { results := [], args := [] }

/-- 'zzlaws_root_b1.FnCriticalityIndexTable': WHATEVER THE INPUT: true; the input reads as it did. -/
def fnCriticalityIndexTableSpec : ChangeSpec := { name := "fnCriticalityIndexTable", fn := fun _ => fun
  | [d] => { results := [.lit (.bool true)], args := [d] }
  | _ => none }
def fnCriticalityIndexTableRow : OpenClaim := { program := "qxb6602742a", sum := "e05ec9fe210b3a9764066aa820045a3e08464b93de67fafe8897675a43f06662", func := "example.com/sluice/sluice/zzlaws_root_b1.FnCriticalityIndexTable", spec := "fnCriticalityIndexTable", apart := false }
def FnCriticalityIndexTableSaid : Prop := fnCriticalityIndexTableRow.holds Try.pinned (OpenSpec.ofChange fnCriticalityIndexTableSpec)

/-- ITS FALSE NEIGHBOUR: 'it returns false'. Refute it at one input. -/
def fnCriticalityIndexTableWrong : ChangeSpec := { name := "fnCriticalityIndexTable", fn := fun _ => fun
  | [d] => { results := [.lit (.bool false)], args := [d] }
  | _ => none }
def FnCriticalityIndexTableWrongFalsely : Prop := fnCriticalityIndexTableRow.holds Try.pinned (OpenSpec.ofChange fnCriticalityIndexTableWrong)

/-- 'zzlaws_root_b1.FnCriticalityIndexOrder': WHATEVER THE INPUT: true; the input reads as it did. -/
def fnCriticalityIndexOrderSpec : ChangeSpec := { name := "fnCriticalityIndexOrder", fn := fun _ => fun
  | [d1, d2] => { results := [.lit (.bool true)], args := [d1, d2] }
  | _ => none }
def fnCriticalityIndexOrderRow : OpenClaim := { program := "qxb6602742a", sum := "e05ec9fe210b3a9764066aa820045a3e08464b93de67fafe8897675a43f06662", func := "example.com/sluice/sluice/zzlaws_root_b1.FnCriticalityIndexOrder", spec := "fnCriticalityIndexOrder", apart := false }
def FnCriticalityIndexOrderSaid : Prop := fnCriticalityIndexOrderRow.holds Try.pinned (OpenSpec.ofChange fnCriticalityIndexOrderSpec)

/-- ITS FALSE NEIGHBOUR: 'it returns false'. Refute it at one input. -/
def fnCriticalityIndexOrderWrong : ChangeSpec := { name := "fnCriticalityIndexOrder", fn := fun _ => fun
  | [d1, d2] => { results := [.lit (.bool false)], args := [d1, d2] }
  | _ => none }
def FnCriticalityIndexOrderWrongFalsely : Prop := fnCriticalityIndexOrderRow.holds Try.pinned (OpenSpec.ofChange fnCriticalityIndexOrderWrong)

/-- 'zzlaws_root_b1.FnThrottleStreakRejectIdempotent': WHATEVER THE INPUT: true; the input reads as it did. -/
def fnThrottleStreakRejectIdempotentSpec : ChangeSpec := { name := "fnThrottleStreakRejectIdempotent", fn := fun _ => fun
  | [d1, d2, d3, d4, d5] => { results := [.lit (.bool true)], args := [d1, d2, d3, d4, d5] }
  | _ => none }
def fnThrottleStreakRejectIdempotentRow : OpenClaim := { program := "qxb6602742a", sum := "e05ec9fe210b3a9764066aa820045a3e08464b93de67fafe8897675a43f06662", func := "example.com/sluice/sluice/zzlaws_root_b1.FnThrottleStreakRejectIdempotent", spec := "fnThrottleStreakRejectIdempotent", apart := false }
def FnThrottleStreakRejectIdempotentSaid : Prop := fnThrottleStreakRejectIdempotentRow.holds Try.pinned (OpenSpec.ofChange fnThrottleStreakRejectIdempotentSpec)

/-- ITS FALSE NEIGHBOUR: 'it returns false'. Refute it at one input. -/
def fnThrottleStreakRejectIdempotentWrong : ChangeSpec := { name := "fnThrottleStreakRejectIdempotent", fn := fun _ => fun
  | [d1, d2, d3, d4, d5] => { results := [.lit (.bool false)], args := [d1, d2, d3, d4, d5] }
  | _ => none }
def FnThrottleStreakRejectIdempotentWrongFalsely : Prop := fnThrottleStreakRejectIdempotentRow.holds Try.pinned (OpenSpec.ofChange fnThrottleStreakRejectIdempotentWrong)

/-- 'zzlaws_root_b1.FnThrottleStreakRejectScript': WHATEVER THE INPUT: true; the input reads as it did. -/
def fnThrottleStreakRejectScriptSpec : ChangeSpec := { name := "fnThrottleStreakRejectScript", fn := fun _ => fun
  | [d1, d2, d3, d4, d5] => { results := [.lit (.bool true)], args := [d1, d2, d3, d4, d5] }
  | _ => none }
def fnThrottleStreakRejectScriptRow : OpenClaim := { program := "qxb6602742a", sum := "e05ec9fe210b3a9764066aa820045a3e08464b93de67fafe8897675a43f06662", func := "example.com/sluice/sluice/zzlaws_root_b1.FnThrottleStreakRejectScript", spec := "fnThrottleStreakRejectScript", apart := false }
def FnThrottleStreakRejectScriptSaid : Prop := fnThrottleStreakRejectScriptRow.holds Try.pinned (OpenSpec.ofChange fnThrottleStreakRejectScriptSpec)

/-- ITS FALSE NEIGHBOUR: 'it returns false'. Refute it at one input. -/
def fnThrottleStreakRejectScriptWrong : ChangeSpec := { name := "fnThrottleStreakRejectScript", fn := fun _ => fun
  | [d1, d2, d3, d4, d5] => { results := [.lit (.bool false)], args := [d1, d2, d3, d4, d5] }
  | _ => none }
def FnThrottleStreakRejectScriptWrongFalsely : Prop := fnThrottleStreakRejectScriptRow.holds Try.pinned (OpenSpec.ofChange fnThrottleStreakRejectScriptWrong)

end Rows
end Go.Proofs.Qxb6602742a
