import Derived.Test.Qxb6603692aProg
import Derived.WalkKit
import Derived.WalkSpells
import Derived.WalkLawsBesides
import Derived.Lib.Builder
import Derived.Laws.Externs
namespace Go.Proofs.Qxb6603692a
open Go.RowKit
set_option linter.unusedVariables false

theorem hide {p : Prop} (h : p) : Hid p := h
theorem unhide {p : Prop} (h : Hid p) : p := h
theorem Try.info47 : (Try.prog.info? 47).map (fun i => i.size) = some 2 := by kernel_rfl
theorem Try.info5 : (Try.prog.info? 5).map (fun i => (i.zero, i.size, i.bytes)) = some (some (.int .u8 0), 1, 1) := by kernel_rfl
theorem Try.lies47 : liesAt Try.prog Try.prog.depth 47 (2 / Try.prog.cellsOf 47) 0 47 1 = true := by kernel_rfl

/-! ### a pointer to a builder, to a raw pointer and back -/
theorem run_to_raw (b : Nat) (w : World) (hsh : w.shape? b = some (47, 2)) :
    (convert 45 62 (.pointer (some ⟨b, 0, none⟩))).run Try.prog w = .ok (.pointer (some ⟨b, 0, none⟩)) w := by
  obtain ⟨j, hj, hjs⟩ := Option.map_eq_some_iff.1 Try.info47
  simp [convert, run_underlying Try.underlying45, run_underlying Try.underlying62]
  change Sem.run Try.prog (underlying 45 >>= _) w = _
  simp [run_underlying Try.underlying45, run_underlying Try.underlying62, Conv.seenAt, viewAt, cellsIn, hsh, sizeOf, typeInfo, hj, hjs]
theorem run_from_raw (b : Nat) (w : World) (hsh : w.shape? b = some (47, 2)) :
    (convert 62 45 (.pointer (some ⟨b, 0, none⟩))).run Try.prog w = .ok (.pointer (some ⟨b, 0, none⟩)) w := by
  obtain ⟨j, hj, hjs⟩ := Option.map_eq_some_iff.1 Try.info47
  simp [convert, run_underlying Try.underlying45, run_underlying Try.underlying62]
  change Sem.run Try.prog (underlying 62 >>= _) w = _
  simp [run_underlying Try.underlying45, run_underlying Try.underlying62, Conv.seenAt, viewAt, hsh, variablesAt, Try.lies47, sizeOf, typeInfo, hj, hjs]

/-! ### (*strings.Builder).copyCheck (43): the shelf's contract does not lie at this dump: the statement behind the test is refused there; no run of ours comes to it -/
set_option maxHeartbeats 1000000 in
set_option maxRecDepth 100000 in
theorem check_used (b : Nat) (w : World) (h0 : w.cell? ⟨b, 0, none⟩ = some (.pointer (some ⟨b, 0, none⟩))) :
    Calls Try.prog 43 #[.pointer (some ⟨b, 0, none⟩)] w fun e w' => e = .returned (.tuple #[]) ∧ w' = w := by
  obtain ⟨j, hj, _⟩ := Option.map_eq_some_iff.1 Try.info47
  have hq := fun (w : World) => Lib.run_neq_ptr_same (P := Try.prog) w ⟨b, 0, none⟩ Try.underlying45 hj
  go_enter Try.func43, Try.ntmps43
  go_wp2
  go_end0
  exact ⟨rfl, rfl⟩

set_option maxHeartbeats 1000000 in
set_option maxRecDepth 100000 in
theorem check_fresh (b : Nat) (w : World) (h0 : w.cell? ⟨b, 0, none⟩ = some (.pointer none)) (hsh : w.shape? b = some (47, 2)) (hfz : w.frozen? ⟨b, 0, none⟩ = false) :
    Calls Try.prog 43 #[.pointer (some ⟨b, 0, none⟩)] w fun e w' => e = .returned (.tuple #[]) ∧ w' = w.setCell ⟨b, 0, none⟩ (.pointer (some ⟨b, 0, none⟩)) := by
  obtain ⟨j, hj, hjs⟩ := Option.map_eq_some_iff.1 Try.info47
  have hq := fun (w : World) => Lib.run_neq_ptr_same (P := Try.prog) w ⟨b, 0, none⟩ Try.underlying45 hj
  have h1 := run_to_raw b w hsh
  have h2 := run_from_raw b w hsh
  go_enter Try.func43, Try.ntmps43
  go_wp2
  rw [run_callFunc_extern Try.func48 (by kernel_rfl) (by kernel_rfl) (by kernel_rfl) (e := Extern.AbiNoEscape.same) (by kernel_rfl)]
  rw [Lib.run_noEscape]
  simp only [Result.andThen]
  rw [Oper.upon_value]
  go_wp2
  go_end0
  exact ⟨rfl, rfl⟩

theorem check_any (B b : Nat) (bs : List Value) (w : World) (h : Lib.IsBuilder 47 5 B b bs w) :
    Calls Try.prog 43 #[.pointer (some ⟨b, 0, none⟩)] w fun e w' => e = .returned (.tuple #[]) ∧ Lib.BuilderAt 47 5 B b (.pointer (some ⟨b, 0, none⟩)) bs w' ∧ Below B w w' := by
  rcases h with h | h
  · refine (check_fresh b w h.cell0 h.shape h.frozen0).mono ?_
    rintro e w' ⟨rfl, rfl⟩
    exact ⟨rfl, h.used _, (Below.refl B w).setCell (p := ⟨b, 0, none⟩) h.1 _⟩
  · refine (check_used b w h.cell0).mono ?_
    rintro e w' ⟨rfl, hw⟩
    rw [hw]
    exact ⟨rfl, h, Below.refl _ _⟩

/-! ### (*strings.Builder).WriteByte (28) -/
set_option maxHeartbeats 2000000 in
set_option maxRecDepth 100000 in
theorem write_any (B b : Nat) (bs : List Value) (c : Int) (w : World) (h : Lib.IsBuilder 47 5 B b bs w) (hlen : bs.length + 1 ≤ 140737488355328) (hBw : B ≤ w.heap.size) :
    Calls Try.prog 28 #[.pointer (some ⟨b, 0, none⟩), .int .u8 c] w fun e w' => e = .returned .nilIface ∧ Lib.IsBuilder 47 5 B b (bs ++ [.int .u8 c]) w' ∧ Below B w w' := by
  obtain ⟨i0, hi, hz0, hz1, hz2⟩ := info_parts Try.info5
  have H1 := hide (check_any B b bs w h)
  go_enter Try.func28, Try.ntmps28
  go_wp2_with fail
  refine (unhide H1).mono ?_
  rintro e w1 ⟨rfl, h1, hb1⟩
  obtain ⟨hB, v, hbk, hown, hne⟩ := h1
  have c0 : w1.cell? ⟨b, 0, none⟩ = some (.pointer (some ⟨b, 0, none⟩)) := by rw [Lib.cell_of_heap hbk]; rfl
  have c1 : w1.cell? ⟨b, 1, none⟩ = some v := by rw [Lib.cell_of_heap hbk]; rfl
  have HBK := hide hbk
  clear hbk
  go_wp2_with (at_builtin; refine wpList_append_own _ rfl _ _ 26 rfl B 5 i0 (.int .u8 0) 1 1 Try.underlying26 hi hz0 hz1 hz2 rfl (by decide) _ _ _ rfl (hown.alloc _) ⟨w1.heap.size, 0, none⟩ 1 1 [.int .u8 c] rfl rfl ?c1 ?c2 ?c3 ?c4 ?c5 ?_)
  case c1 =>
    intro j u hj
    match j, hj with
    | 0, hj => simp at hj; subst hj; simp [Addr.add]
  case c2 => intro u hu; simp at hu; subst hu; rfl
  case c3 => unfold maxLen; omega
  case c4 => omega
  case c5 => have := hb1.size; simp; omega
  intro v' w2 hown' hgrow _
  have hlt : b < w1.heap.size := Lib.BuilderAt.lt ⟨hB, v, unhide HBK, hown, hne⟩
  have hb2 : w2.heap[b]? = some (.cells #[.pointer (some ⟨b, 0, none⟩), v] 47 (0, 0)) := by
    rw [hgrow.block b (by simp; omega) (fun e => hne e.symm), Lib.alloc_old w1 _ b hlt]
    exact unhide HBK
  have d0 : w2.cell? ⟨b, 0, none⟩ = some (.pointer (some ⟨b, 0, none⟩)) := by rw [Lib.cell_of_heap hb2]; rfl
  have d1 : w2.cell? ⟨b, 1, none⟩ = some v := by rw [Lib.cell_of_heap hb2]; rfl
  have f1 : w2.frozen? ⟨b, 1, none⟩ = false := Lib.frozen_of_heap hb2 1
  obtain ⟨g, cap, rfl⟩ : ∃ g cap, v' = .slice (some ⟨g, 0, none⟩) (bs.length + 1) cap := by
    rcases hown'.2 with ⟨_, h0⟩ | ⟨g, cap, cur, hv, _⟩
    · omega
    · exact ⟨g, cap, hv⟩
  have HB2 := hide hb2
  have HOWN := hide hown'
  have hbel := hb1.trans (((Below.refl B w1).alloc (by have := hb1.size; omega) (.cells #[.int .u8 c] 5)).grown hgrow (by have := hb1.size; simp; omega) (fun k hk => (hown.lt k hk).1))
  clear hb2 hown' hgrow hown hb1 c0 c1
  go_wp2
  go_ret
  refine ⟨rfl, .inr (Lib.BuilderAt.put (T := 47) (e := 5) hB (unhide HB2) (bs' := bs ++ [.int .u8 c]) (by simpa using unhide HOWN) (by decide)), hbel.setCell hB _⟩
end Go.Proofs.Qxb6603692a
