/-
  No cell of these rows narrows 'for every input' (looked for: loops, veiled, ifaces, maps, wideKeys, modest, calm, conditions, laid).
  DERIVED. THE GIVEN ROWS OF THIS SEAT. 6 by the template 'for every input the law returns true; each argument reads behind the call as it read before'; 0 by the template 'total and deterministic' (their statements: Qxb6602657aTotals.lean).
  GIVEN WITH THE SEED: the statements are not yours to turn. If you find one false, say at which input.
  Laid BY PROGRAM, IN A SANDBOX (cutbox-rows.mjs): the forced cells as the released guide's own fill.sh prints them over the translation dff832194d309476… (all of the seat's roots in one cut). By AI agents, Wed Nov 11 2026. No macro, syntax, notation, axiom, sorry.
-/
import Derived.Test.Qxb6602657aChecked
import GoSem.Claim
import GoSem.ClaimJoined
import GoSem.ClaimMapViews
import Derived.JoinedTies
import Derived.KernelRfl
namespace Go.Proofs.Qxb6602657a
/- THE CELL 'sum', in the pinned program and in every row, IS THE sha256 OF THE DUMP (.gsa) THAT Qxb6602657aProg.lean LOADS. Nothing in Lean hashes anything: it is a label: what it is worth is what the hold of that sum in a sandbox is worth. -/
noncomputable def Try.pinned : Pinned := { name := "qxb6602657a", sum := "dff832194d309476cb913159184b9f178259f1f3850762873653c7eebdda6499", checked := Try.checked }
namespace Rows
def none {H : Type} : Left H := { results := [], args := [] }

/-- 'zzlaws_internal_pages_b1.FnMergeLeavesJustTheMapThatTheChangesMake': WHATEVER THE INPUT: true; the input reads as it did. -/
def fnMergeLeavesJustTheMapThatTheChangesMakeSpec : ChangeSpec := { name := "fnMergeLeavesJustTheMapThatTheChangesMake", fn := fun _ => fun
  | [d1, d2] => { results := [.lit (.bool true)], args := [d1, d2] }
  | _ => none }
def fnMergeLeavesJustTheMapThatTheChangesMakeRow : OpenClaim := { program := "qxb6602657a", sum := "dff832194d309476cb913159184b9f178259f1f3850762873653c7eebdda6499", func := "example.com/undoline/undoline/zzlaws_internal_pages_b1.FnMergeLeavesJustTheMapThatTheChangesMake", spec := "fnMergeLeavesJustTheMapThatTheChangesMake", inPlace := ["internal/bytealg.Compare"], apart := false }
def FnMergeLeavesJustTheMapThatTheChangesMakeSaid : Prop := fnMergeLeavesJustTheMapThatTheChangesMakeRow.holds Try.pinned (OpenSpec.ofChange fnMergeLeavesJustTheMapThatTheChangesMakeSpec)

/-- ITS FALSE NEIGHBOUR: 'it returns false'. Refute it at one input. -/
def fnMergeLeavesJustTheMapThatTheChangesMakeWrong : ChangeSpec := { name := "fnMergeLeavesJustTheMapThatTheChangesMake", fn := fun _ => fun
  | [d1, d2] => { results := [.lit (.bool false)], args := [d1, d2] }
  | _ => none }
def FnMergeLeavesJustTheMapThatTheChangesMakeWrongFalsely : Prop := fnMergeLeavesJustTheMapThatTheChangesMakeRow.holds Try.pinned (OpenSpec.ofChange fnMergeLeavesJustTheMapThatTheChangesMakeWrong)

/-- 'zzlaws_internal_pages_b1.FnMergeTwiceWithTheSameChangesIsMergeOnce': WHATEVER THE INPUT: true; the input reads as it did. -/
def fnMergeTwiceWithTheSameChangesIsMergeOnceSpec : ChangeSpec := { name := "fnMergeTwiceWithTheSameChangesIsMergeOnce", fn := fun _ => fun
  | [d1, d2] => { results := [.lit (.bool true)], args := [d1, d2] }
  | _ => none }
def fnMergeTwiceWithTheSameChangesIsMergeOnceRow : OpenClaim := { program := "qxb6602657a", sum := "dff832194d309476cb913159184b9f178259f1f3850762873653c7eebdda6499", func := "example.com/undoline/undoline/zzlaws_internal_pages_b1.FnMergeTwiceWithTheSameChangesIsMergeOnce", spec := "fnMergeTwiceWithTheSameChangesIsMergeOnce", inPlace := ["internal/bytealg.Compare"], apart := false }
def FnMergeTwiceWithTheSameChangesIsMergeOnceSaid : Prop := fnMergeTwiceWithTheSameChangesIsMergeOnceRow.holds Try.pinned (OpenSpec.ofChange fnMergeTwiceWithTheSameChangesIsMergeOnceSpec)

/-- ITS FALSE NEIGHBOUR: 'it returns false'. Refute it at one input. -/
def fnMergeTwiceWithTheSameChangesIsMergeOnceWrong : ChangeSpec := { name := "fnMergeTwiceWithTheSameChangesIsMergeOnce", fn := fun _ => fun
  | [d1, d2] => { results := [.lit (.bool false)], args := [d1, d2] }
  | _ => none }
def FnMergeTwiceWithTheSameChangesIsMergeOnceWrongFalsely : Prop := fnMergeTwiceWithTheSameChangesIsMergeOnceRow.holds Try.pinned (OpenSpec.ofChange fnMergeTwiceWithTheSameChangesIsMergeOnceWrong)

/-- 'zzlaws_internal_pages_b1.FnTakeRunCutsNPagesOffTheHeadOfRunI': WHATEVER THE INPUT: true; the input reads as it did. -/
def fnTakeRunCutsNPagesOffTheHeadOfRunISpec : ChangeSpec := { name := "fnTakeRunCutsNPagesOffTheHeadOfRunI", fn := fun _ => fun
  | [d1, d2, d3] => { results := [.lit (.bool true)], args := [d1, d2, d3] }
  | _ => none }
def fnTakeRunCutsNPagesOffTheHeadOfRunIRow : OpenClaim := { program := "qxb6602657a", sum := "dff832194d309476cb913159184b9f178259f1f3850762873653c7eebdda6499", func := "example.com/undoline/undoline/zzlaws_internal_pages_b1.FnTakeRunCutsNPagesOffTheHeadOfRunI", spec := "fnTakeRunCutsNPagesOffTheHeadOfRunI", apart := false }
def FnTakeRunCutsNPagesOffTheHeadOfRunISaid : Prop := fnTakeRunCutsNPagesOffTheHeadOfRunIRow.holds Try.pinned (OpenSpec.ofChange fnTakeRunCutsNPagesOffTheHeadOfRunISpec)

/-- ITS FALSE NEIGHBOUR: 'it returns false'. Refute it at one input. -/
def fnTakeRunCutsNPagesOffTheHeadOfRunIWrong : ChangeSpec := { name := "fnTakeRunCutsNPagesOffTheHeadOfRunI", fn := fun _ => fun
  | [d1, d2, d3] => { results := [.lit (.bool false)], args := [d1, d2, d3] }
  | _ => none }
def FnTakeRunCutsNPagesOffTheHeadOfRunIWrongFalsely : Prop := fnTakeRunCutsNPagesOffTheHeadOfRunIRow.holds Try.pinned (OpenSpec.ofChange fnTakeRunCutsNPagesOffTheHeadOfRunIWrong)

/-- 'zzlaws_internal_pages_b1.FnTakeRunKeepsFreeRunsSortedDisjointAndCounted': WHATEVER THE INPUT: true; the input reads as it did. -/
def fnTakeRunKeepsFreeRunsSortedDisjointAndCountedSpec : ChangeSpec := { name := "fnTakeRunKeepsFreeRunsSortedDisjointAndCounted", fn := fun _ => fun
  | [d1, d2, d3] => { results := [.lit (.bool true)], args := [d1, d2, d3] }
  | _ => none }
def fnTakeRunKeepsFreeRunsSortedDisjointAndCountedRow : OpenClaim := { program := "qxb6602657a", sum := "dff832194d309476cb913159184b9f178259f1f3850762873653c7eebdda6499", func := "example.com/undoline/undoline/zzlaws_internal_pages_b1.FnTakeRunKeepsFreeRunsSortedDisjointAndCounted", spec := "fnTakeRunKeepsFreeRunsSortedDisjointAndCounted", apart := false }
def FnTakeRunKeepsFreeRunsSortedDisjointAndCountedSaid : Prop := fnTakeRunKeepsFreeRunsSortedDisjointAndCountedRow.holds Try.pinned (OpenSpec.ofChange fnTakeRunKeepsFreeRunsSortedDisjointAndCountedSpec)

/-- ITS FALSE NEIGHBOUR: 'it returns false'. Refute it at one input. -/
def fnTakeRunKeepsFreeRunsSortedDisjointAndCountedWrong : ChangeSpec := { name := "fnTakeRunKeepsFreeRunsSortedDisjointAndCounted", fn := fun _ => fun
  | [d1, d2, d3] => { results := [.lit (.bool false)], args := [d1, d2, d3] }
  | _ => none }
def FnTakeRunKeepsFreeRunsSortedDisjointAndCountedWrongFalsely : Prop := fnTakeRunKeepsFreeRunsSortedDisjointAndCountedRow.holds Try.pinned (OpenSpec.ofChange fnTakeRunKeepsFreeRunsSortedDisjointAndCountedWrong)

/-- 'zzlaws_internal_pages_b1.FnTakesRefusesLongerEntriesOnceItRefusesOne': WHATEVER THE INPUT: true; the input reads as it did. -/
def fnTakesRefusesLongerEntriesOnceItRefusesOneSpec : ChangeSpec := { name := "fnTakesRefusesLongerEntriesOnceItRefusesOne", fn := fun _ => fun
  | [d1, d2, d3] => { results := [.lit (.bool true)], args := [d1, d2, d3] }
  | _ => none }
def fnTakesRefusesLongerEntriesOnceItRefusesOneRow : OpenClaim := { program := "qxb6602657a", sum := "dff832194d309476cb913159184b9f178259f1f3850762873653c7eebdda6499", func := "example.com/undoline/undoline/zzlaws_internal_pages_b1.FnTakesRefusesLongerEntriesOnceItRefusesOne", spec := "fnTakesRefusesLongerEntriesOnceItRefusesOne", apart := false }
def FnTakesRefusesLongerEntriesOnceItRefusesOneSaid : Prop := fnTakesRefusesLongerEntriesOnceItRefusesOneRow.holds Try.pinned (OpenSpec.ofChange fnTakesRefusesLongerEntriesOnceItRefusesOneSpec)

/-- ITS FALSE NEIGHBOUR: 'it returns false'. Refute it at one input. -/
def fnTakesRefusesLongerEntriesOnceItRefusesOneWrong : ChangeSpec := { name := "fnTakesRefusesLongerEntriesOnceItRefusesOne", fn := fun _ => fun
  | [d1, d2, d3] => { results := [.lit (.bool false)], args := [d1, d2, d3] }
  | _ => none }
def FnTakesRefusesLongerEntriesOnceItRefusesOneWrongFalsely : Prop := fnTakesRefusesLongerEntriesOnceItRefusesOneRow.holds Try.pinned (OpenSpec.ofChange fnTakesRefusesLongerEntriesOnceItRefusesOneWrong)

/-- 'zzlaws_internal_pages_b1.FnTakesRefusesOnlyANodeThatFillsHalfItsRun': WHATEVER THE INPUT: true; the input reads as it did. -/
def fnTakesRefusesOnlyANodeThatFillsHalfItsRunSpec : ChangeSpec := { name := "fnTakesRefusesOnlyANodeThatFillsHalfItsRun", fn := fun _ => fun
  | [d1, d2] => { results := [.lit (.bool true)], args := [d1, d2] }
  | _ => none }
def fnTakesRefusesOnlyANodeThatFillsHalfItsRunRow : OpenClaim := { program := "qxb6602657a", sum := "dff832194d309476cb913159184b9f178259f1f3850762873653c7eebdda6499", func := "example.com/undoline/undoline/zzlaws_internal_pages_b1.FnTakesRefusesOnlyANodeThatFillsHalfItsRun", spec := "fnTakesRefusesOnlyANodeThatFillsHalfItsRun", apart := false }
def FnTakesRefusesOnlyANodeThatFillsHalfItsRunSaid : Prop := fnTakesRefusesOnlyANodeThatFillsHalfItsRunRow.holds Try.pinned (OpenSpec.ofChange fnTakesRefusesOnlyANodeThatFillsHalfItsRunSpec)

/-- ITS FALSE NEIGHBOUR: 'it returns false'. Refute it at one input. -/
def fnTakesRefusesOnlyANodeThatFillsHalfItsRunWrong : ChangeSpec := { name := "fnTakesRefusesOnlyANodeThatFillsHalfItsRun", fn := fun _ => fun
  | [d1, d2] => { results := [.lit (.bool false)], args := [d1, d2] }
  | _ => none }
def FnTakesRefusesOnlyANodeThatFillsHalfItsRunWrongFalsely : Prop := fnTakesRefusesOnlyANodeThatFillsHalfItsRunRow.holds Try.pinned (OpenSpec.ofChange fnTakesRefusesOnlyANodeThatFillsHalfItsRunWrong)

end Rows
end Go.Proofs.Qxb6602657a
