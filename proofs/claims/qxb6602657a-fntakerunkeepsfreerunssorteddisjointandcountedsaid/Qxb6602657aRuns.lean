/-
  The contracts of the functions on the roads of the two laws over takeRun: zzTakeRunDomainB1, zzCloneRunsB1, zzToRunsB1, slices.Delete, takeRun, ZZTakeRunB1.
-/
import Derived.Test.Qxb6602657aProg
import Derived.Test.Qxb6602657aMem
import Derived.BigRegion
import Derived.RegionTactic
import Derived.Deep.RegionLaw
namespace Go.Proofs.Qxb6602657a
open Go.RowKit
set_option linter.unusedVariables false

theorem Try.info53 : (Try.prog.info? 53).map (fun i => (i.zero, i.size, i.bytes)) = some (some (.agg #[.int .u64 0, .int .u32 0]), 2, 16) := by kernel_rfl
theorem Try.info48 : (Try.prog.info? 48).map (fun i => (i.zero, i.size, i.bytes)) = some (some (.agg #[.int .u64 0, .int .u32 0]), 2, 16) := by kernel_rfl
theorem Try.info66 : (Try.prog.info? 66).map (fun i => (i.zero, i.size, i.bytes)) = some (some (.agg #[.int .u64 0, .int .u32 0]), 2, 16) := by kernel_rfl

/-! ### zzTakeRunDomainB1 (22) -/
set_option maxHeartbeats 400000 in
theorem dom_in (b off n c : Nat) (i : Nat) (m : Int) (S P : Nat → Int) (w : World) (hn : n ≤ 65536) (hi : i < n) (hR : RunsAt w b off n S P) :
    Calls Try.prog 22 #[.slice (some ⟨b, off, none⟩) n c, .int .i64 (i : Int), .int .u32 m] w fun e w' => e = .returned (.bool (decide (m ≤ P i))) ∧ w' = w := by
  have h1 := (hR i hi).2
  go_enter Try.func22, Try.ntmps22
  go_wp2
  go_ret
  exact ⟨rfl, rfl⟩

/-! ### zzCloneRunsB1 (23) -/
set_option maxHeartbeats 400000 in
theorem clone_any (b off n c : Nat) (S P : Nat → Int) (w : World) (hn : n ≤ 65536) (hb : b < w.heap.size) (hR : RunsAt w b off n S P) :
    Calls Try.prog 23 #[.slice (some ⟨b, off, none⟩) n c] w fun e w' => e = .returned (.slice (some ⟨w.heap.size, 0, none⟩) n n) ∧ Below w.heap.size w w' ∧ RunsAt w' w.heap.size 0 n S P ∧ w.heap.size < w'.heap.size := by
  have he := fun (w : World) => Lib.run_eql_slice_nil (P := Try.prog) w
  go_enter Try.func23, Try.ntmps23
  go_wp2_with (refine wpList_make_is _ rfl _ _ 42 rfl 53 (.agg #[.int .u64 0, .int .u32 0]) 2 16 Try.underlying42 Try.info53 .i64 .i64 n rfl rfl (by omega) (by omega) ?_)
  intro w1 hrow hb1 hsz1
  have hO := OwnRuns.start S P hrow
  clear hrow
  go_wp2
  go_loopw [4] (fun j wr => ∃ k : Nat, k ≤ n ∧ j = .int .i64 k ∧ OwnRuns wr w.heap.size 53 n k S P ∧ Below w.heap.size w wr ∧ wr.heap.size = w.heap.size + 1) (fun j _ => n - (intOf j).toNat)
  case atStart => exact ⟨0, Nat.zero_le _, rfl, hO, hb1, hsz1⟩
  case round =>
    obtain ⟨k, hk, rfl, hOk, hbk, hszk⟩ := hrel
    clear hO hb1 hsz1
    by_cases hlt : k < n
    · obtain ⟨g1, g2⟩ := (hR.below hbk hb) k hlt
      obtain ⟨⟨v1, c1⟩, ⟨v2, c2⟩, f1, f2⟩ := hOk.room k hlt
      have hs := hOk.step (S k) (P k) rfl rfl
      go_wp2
      go_roundw
      case rel => exact ⟨k + 1, by omega, by go_num, hs, (hbk.setCell (Nat.le_refl _) _).setCell (Nat.le_refl _) _, by simpa using hszk⟩
      case measure => simp [intOf]; omega
    · have hkn : k = n := by omega
      subst hkn
      go_wp2
      go_ret
      exact ⟨rfl, hbk, hOk.cells (Nat.le_refl _), by omega⟩

/-! ### zzToRunsB1 (25) -/
set_option maxHeartbeats 400000 in
theorem to_any (b off n c : Nat) (S P : Nat → Int) (w : World) (hn : n ≤ 65536) (hb : b < w.heap.size) (hR : RunsAt w b off n S P) :
    Calls Try.prog 25 #[.slice (some ⟨b, off, none⟩) n c] w fun e w' => e = .returned (.slice (some ⟨w.heap.size, 0, none⟩) n n) ∧ Below w.heap.size w w' ∧ RunsAt w' w.heap.size 0 n S P ∧ w.heap.size < w'.heap.size := by
  go_enter Try.func25, Try.ntmps25
  go_wp2_with (refine wpList_make_is _ rfl _ _ 49 rfl 48 (.agg #[.int .u64 0, .int .u32 0]) 2 16 Try.underlying49 Try.info48 .i64 .i64 n rfl rfl (by omega) (by omega) ?_)
  intro w1 hrow hb1 hsz1
  have hO := OwnRuns.start S P hrow
  clear hrow
  go_wp2
  go_loopw [4] (fun j wr => ∃ k : Nat, k ≤ n ∧ j = .int .i64 k ∧ OwnRuns wr w.heap.size 48 n k S P ∧ Below w.heap.size w wr ∧ wr.heap.size = w.heap.size + 1) (fun j _ => n - (intOf j).toNat)
  case atStart => exact ⟨0, Nat.zero_le _, rfl, hO, hb1, hsz1⟩
  case round =>
    obtain ⟨k, hk, rfl, hOk, hbk, hszk⟩ := hrel
    clear hO hb1 hsz1
    by_cases hlt : k < n
    · obtain ⟨g1, g2⟩ := (hR.below hbk hb) k hlt
      obtain ⟨⟨v1, c1⟩, ⟨v2, c2⟩, f1, f2⟩ := hOk.room k hlt
      have hs := hOk.step (S k) (P k) rfl rfl
      go_wp2
      go_region
      all_goals go_wp2
      all_goals go_roundw
      case rel => exact ⟨k + 1, by omega, by go_num, hs, ((hbk.setCell (Nat.le_refl _) _).setCell (Nat.le_refl _) _).drew, by simpa using hszk⟩
      case measure => simp [intOf]; omega
    · have hkn : k = n := by omega
      subst hkn
      go_wp2
      go_ret
      exact ⟨rfl, hbk, hOk.cells (Nat.le_refl _), by omega⟩

/-! ### slices.Delete (36) -/
set_option maxHeartbeats 1600000 in
set_option maxRecDepth 1000000 in
/-- slices.Delete(s, i, i+1) at a row of the call's own. -/
theorem del_any (g n i : Nat) (S P : Nat → Int) (w : World) (hn : n ≤ 65536) (hi : i < n) (hO : OwnRuns w g 66 n n S P) :
    Calls Try.prog 36 #[.slice (some ⟨g, 0, none⟩) n n, .int .i64 (i : Int), .int .i64 ((i : Int) + 1)] w fun e w' => e = .returned (.slice (some ⟨g, 0, none⟩) (n - 1) n) ∧ w.grownBy w' (some g) ∧ w'.heap.size = w.heap.size ∧ OwnRuns w' g 66 n (n - 1) (skip i S) (skip i P) := by
  obtain ⟨i0, hi0, hz0, hz1, hz2⟩ := info_parts Try.info66
  obtain ⟨f, hf, hc⟩ := hO
  have one : ∀ j, j < n * 2 → (f j).oneCell' = true := by
    intro j hj
    have h2 := hc (j / 2) (by omega)
    rcases (show j = j / 2 * 2 ∨ j = j / 2 * 2 + 1 by omega) with h | h
    · rw [h, h2.1]; rfl
    · rw [h, h2.2]; rfl
  obtain ⟨A, hA, hnews⟩ : ∃ A : Addr, (if n = i + 1 then some (⟨g, 0, none⟩ : Addr) else some ⟨g, (i + 1) * 2, none⟩) = some A ∧ Hid (∀ j u, (behind f i n)[j]? = some u → w.drew.cell? (A.add j) = some u) := by
    by_cases h : n = i + 1
    · refine ⟨⟨g, 0, none⟩, by simp [h], fun j u hu => ?_⟩
      have h0 : (behind f i n).length = 0 := by rw [behind_length]; omega
      rw [List.length_eq_zero_iff.1 h0] at hu
      simp at hu
    · refine ⟨⟨g, (i + 1) * 2, none⟩, by simp [h], fun j u hu => ?_⟩
      have hj : j < (n - (i + 1)) * 2 := by
        have := (List.getElem?_eq_some_iff.1 hu).1
        rwa [behind_length] at this
      rw [behind_get _ _ _ _ hj] at hu
      rw [Addr.add_lit]
      exact (hf.cell (i := (i + 1) * 2 + j) (by omega)).trans hu
  have s1 : Hid ((behind f i n).length = (n - (i + 1)) * 2) := behind_length f i n
  have s2 : Hid (∀ u ∈ behind f i n, u.oneCell' = true) := by
    intro u hu
    obtain ⟨x, hx, rfl⟩ := List.mem_map.1 hu
    exact one _ (by have := List.mem_range.1 hx; omega)
  have s3 : Hid (∀ j, j < (behind f i n).length → (w.drew.cell? ⟨g, 0 + i * 2 + j, none⟩).isSome = true ∧ w.drew.frozen? ⟨g, 0 + i * 2 + j, none⟩ = false) := by
    intro j hj
    rw [behind_length] at hj
    exact ⟨by show (w.cell? _).isSome = true; rw [hf.cell (by omega)]; rfl, hf.frozen _⟩
  obtain ⟨W1, hW1⟩ : ∃ W1, W1 = w.drew.setCells g (0 + i * 2) (behind f i n) := ⟨_, rfl⟩
  have hR1 := rowIs_setCells (behind f i n) (0 + i * 2) w.drew f hf
  rw [← hW1] at hR1
  have hcl : ∀ ty, (Builtin.clear_ #[64] ty #[.slice (some ⟨g, (n - 1) * 2, none⟩) (n - (n - 1)) (n - (n - 1))]).run Try.prog W1 = .ok (.tuple #[]) (W1.setCells g ((n - 1) * 2) [.int .u64 0, .int .u32 0]) :=
    fun ty => by
      rw [show n - (n - 1) = 1 by omega]
      exact run_clear_one2 W1 64 66 ty _ _ Try.underlying64 (fun w => by kernel_rfl) rfl rfl g _ 1 (fun j hj => by rw [hR1.cell (by omega)]; rfl) (fun j _ => hR1.frozen _)
  have hW : Hid (W1 = w.drew.setCells g (0 + i * 2) (behind f i n)) := hW1
  have X : Hid (w.rowIs g 66 (n * 2) f ∧ ∀ j, j < n → f (j * 2) = .int .u64 (S j) ∧ f (j * 2 + 1) = .int .u32 (P j)) := ⟨hf, hc⟩
  have hic : i ≤ n := by omega
  have hp0 : (0 : Int) ≤ (i : Int) + 1 := by omega
  have hp1 : (i : Int) + 1 ≤ (n : Int) := by omega
  have hp2 : ((i : Int) + 1).toNat = i + 1 := by omega
  have hnn : i + (n - (i + 1)) = n - 1 := by omega
  clear hW1 hR1 hf hc one
  go_enter Try.func36, Try.ntmps36
  go_wp2_with fail
  go_region_law (refine step_append_room rfl (.tmp 22) (.tmp 25) 64 rfl 66 i0 2 Try.underlying64 hi0 hz1 g 0 i n (by simp [Act.eval, Act.put]) A (n - (i + 1)) (n - (i + 1)) (behind f i n) (by simp [Act.eval, Act.put]) s1.out hnews.out s2.out (by omega) s3.out ?_; rw [← hW.out])
  go_wp2
  go_ret
  obtain ⟨hf, hc⟩ := X.out
  have hd := del_runs hi (w := w.drew) hf hc [.int .u64 0, .int .u32 0]
  have hg1 := grownBy_setCells g (behind f i n) (0 + i * 2) w.drew
  have hg2 := grownBy_setCells g [.int .u64 0, .int .u32 0] ((n - 1) * 2) (w.drew.setCells g (0 + i * 2) (behind f i n))
  have hz := (size_setCells g [.int .u64 0, .int .u32 0] ((n - 1) * 2) (w.drew.setCells g (0 + i * 2) (behind f i n))).trans (size_setCells g (behind f i n) (0 + i * 2) w.drew)
  rw [← hW.out] at hg1 hg2 hz
  rw [Nat.zero_add] at hW
  rw [← hW.out] at hd
  exact ⟨rfl, grownBy_trans ⟨hg1.os, hg1.tape, hg1.output, hg1.size, hg1.block⟩ hg2, hz, hd⟩

/-! ### takeRun (33) -/
set_option maxHeartbeats 400000 in
theorem take_part (g n i : Nat) (m : Int) (S P : Nat → Int) (w : World) (hn : n ≤ 65536) (hi : i < n) (hO : OwnRuns w g 66 n n S P) (hm0 : 0 ≤ m) (hm : m < P i) (hP : P i ≤ 4294967295) (hS0 : 0 ≤ S i) (hS1 : S i ≤ 18446744073709551615) :
    Calls Try.prog 33 #[.slice (some ⟨g, 0, none⟩) n n, .int .i64 (i : Int), .int .u32 m] w fun e w' => e = .returned (.tuple #[.agg #[.int .u64 (S i), .int .u32 m], .slice (some ⟨g, 0, none⟩) n n]) ∧ w.grownBy w' (some g) ∧ w.heap.size < w'.heap.size ∧
      OwnRuns w' g 66 n n (fun j => if j = i then IntKind.u64.wrap (S i + m) else S j) (fun j => if j = i then P i - m else P j) := by
  obtain ⟨c1, c2⟩ := hO.cells (Nat.le_refl _) i hi
  obtain ⟨_, _, f1, f2⟩ := hO.room i hi
  rw [Nat.zero_add] at c1 c2
  have hlt := hO.lt
  go_enter Try.func33, Try.ntmps33
  go_wp2
  refine bodyPost_ret (v := .tuple #[.agg #[.int .u64 (S i), .int .u32 m], .slice (some ⟨g, 0, none⟩) n n]) (by simp [results, Try.results33, go_sem]) rfl ⟨rfl, ?_, ?_, ?_⟩
  · exact grownBy_trans (grownBy_trans (grownBy_trans (grownBy_setCell _ _ _ _) (grownBy_setCell _ _ _ _)) (World.grownBy_alloc _ _ _)) (World.grownBy_alloc _ _ _)
  · simp; omega
  · exact ((hO.put i _ _).alloc _).alloc _

set_option maxHeartbeats 400000 in
theorem take_all (g n i : Nat) (m : Int) (S P : Nat → Int) (w : World) (hn : n ≤ 65536) (hi : i < n) (hO : OwnRuns w g 66 n n S P) (hm0 : 0 ≤ m) (hm : m = P i) (hP : P i ≤ 4294967295) (hS0 : 0 ≤ S i) (hS1 : S i ≤ 18446744073709551615) :
    Calls Try.prog 33 #[.slice (some ⟨g, 0, none⟩) n n, .int .i64 (i : Int), .int .u32 m] w fun e w' => e = .returned (.tuple #[.agg #[.int .u64 (S i), .int .u32 m], .slice (some ⟨g, 0, none⟩) (n - 1) n]) ∧ w.grownBy w' (some g) ∧ w.heap.size < w'.heap.size ∧
      OwnRuns w' g 66 n (n - 1) (skip i S) (skip i P) := by
  obtain ⟨c1, c2⟩ := hO.cells (Nat.le_refl _) i hi
  obtain ⟨_, _, f1, f2⟩ := hO.room i hi
  rw [Nat.zero_add] at c1 c2
  rw [← hm] at c2
  have hlt := hO.lt
  have H : Hid (m = P i) := hm
  rw [← hm] at hP
  clear hm
  go_enter Try.func33, Try.ntmps33
  go_wp2_with fail
  have hO1 := ((hO.put i (IntKind.u64.wrap (S i + m)) 0).alloc (Obj.cells #[Value.int IntKind.u64 0, Value.int IntKind.u32 0] 66)).alloc (Obj.cells #[Value.int IntKind.u64 (S i), Value.int IntKind.u32 m] 66)
  refine (del_any g n i _ _ _ hn hi hO1).mono ?_
  rintro e w1 ⟨rfl, hg1, hz1, hO2⟩
  have hO3 := hO2.congr (fun j _ => ⟨skip_put i S _ j, skip_put i P _ j⟩)
  have k1 : w1.cell? ⟨w.heap.size, 0, none⟩ = some (.int .u64 0) := hg1.cell (by simp [go_sem]) (by simp; omega)
  have k2 : w1.cell? ⟨w.heap.size, 1, none⟩ = some (.int .u32 0) := hg1.cell (by simp [go_sem]) (by simp; omega)
  have k3 : w1.cell? ⟨w.heap.size + 1, 0, none⟩ = some (.int .u64 (S i)) := hg1.cell (by simp [go_sem]) (by simp; omega)
  have k4 : w1.cell? ⟨w.heap.size + 1, 1, none⟩ = some (.int .u32 m) := hg1.cell (by simp [go_sem]) (by simp; omega)
  have q1 : ∀ o, w1.frozen? ⟨w.heap.size, o, none⟩ = false := fun o => (World.frozen?_of_block (hg1.block w.heap.size (by simp; omega) (by simp; omega))).trans (by simp [go_sem])
  have hG := grownBy_trans (grownBy_trans (grownBy_trans (grownBy_trans (grownBy_setCell w g (i * 2) (.int .u64 (IntKind.u64.wrap (S i + m)))) (grownBy_setCell _ g (i * 2 + 1) (.int .u32 0))) (World.grownBy_alloc _ _ _)) (World.grownBy_alloc _ _ _)) hg1
  have hz : w.heap.size + 2 ≤ w1.heap.size := by rw [hz1]; simp
  clear hg1 hz1 hO1 hO2 hO c1 c2 f1 f2
  go_wp2
  refine bodyPost_ret (v := .tuple #[.agg #[.int .u64 (S i), .int .u32 m], .slice (some ⟨g, 0, none⟩) (n - 1) n]) (by simp [results, Try.results33, go_sem, k1, k2]) rfl ⟨rfl, ?_, ?_, ?_⟩
  · exact grownBy_new (grownBy_new hG (Nat.le_refl _) _) (Nat.le_refl _) _
  · simp; omega
  · exact (hO3.alike (Go.Deep.blk_setCell_other _ _ _ _ (by simp; omega))).alike (Go.Deep.blk_setCell_other _ _ _ _ (by simp; omega))

theorem take_any (g n i : Nat) (m : Int) (S P : Nat → Int) (w : World) (hn : n ≤ 65536) (hi : i < n) (hO : OwnRuns w g 66 n n S P) (hm0 : 0 ≤ m) (hm : m ≤ P i) (hP : P i ≤ 4294967295) (hS0 : 0 ≤ S i) (hS1 : S i ≤ 18446744073709551615) :
    Calls Try.prog 33 #[.slice (some ⟨g, 0, none⟩) n n, .int .i64 (i : Int), .int .u32 m] w fun e w' => e = .returned (.tuple #[.agg #[.int .u64 (S i), .int .u32 m], .slice (some ⟨g, 0, none⟩) (outN n i m P) n]) ∧ w.grownBy w' (some g) ∧ w.heap.size < w'.heap.size ∧
      OwnRuns w' g 66 n (outN n i m P) (outS i m S P) (outP i m P) := by
  by_cases h : P i = m
  · have := take_all g n i m S P w hn hi hO hm0 h.symm hP hS0 hS1
    simpa [outN, outS, outP, h] using this
  · have := take_part g n i m S P w hn hi hO hm0 (by omega) hP hS0 hS1
    simpa [outN, outS, outP, h] using this

/-! ### ZZTakeRunB1 (24) -/
set_option maxHeartbeats 1000000 in
theorem zztake_any (b off n c i : Nat) (m : Int) (S P : Nat → Int) (w : World) (hn : n ≤ 65536) (hb : b < w.heap.size) (hR : RunsAt w b off n S P) (hi : i < n) (hm0 : 0 ≤ m) (hm : m ≤ P i) (hP : P i ≤ 4294967295) (hS0 : 0 ≤ S i) (hS1 : S i ≤ 18446744073709551615) :
    Calls Try.prog 24 #[.slice (some ⟨b, off, none⟩) n c, .int .i64 (i : Int), .int .u32 m] w fun e w' => ∃ g, e = .returned (.tuple #[.agg #[.int .u64 (S i), .int .u32 m], .slice (some ⟨g, 0, none⟩) (outN n i m P) (outN n i m P)]) ∧ Below w.heap.size w w' ∧ w.heap.size ≤ g ∧ g < w'.heap.size ∧ RunsAt w' g 0 (outN n i m P) (outS i m S P) (outP i m P) := by
  have hoN := outN_le n i m P
  obtain ⟨N, hN⟩ : ∃ N, N = outN n i m P := ⟨_, rfl⟩
  obtain ⟨S', hS'⟩ : ∃ S', S' = outS i m S P := ⟨_, rfl⟩
  obtain ⟨P', hP'⟩ : ∃ P', P' = outP i m P := ⟨_, rfl⟩
  have hT := fun (g : Nat) (w : World) (hO : OwnRuns w g 66 n n S P) => take_any g n i m S P w hn hi hO hm0 hm hP hS0 hS1
  rw [← hN, ← hS', ← hP'] at hT ⊢
  rw [← hN] at hoN
  clear hN hS' hP'
  have HT : Hid (∀ (g : Nat) (w : World) (hO : OwnRuns w g 66 n n S P), Calls Try.prog 33 #[.slice (some ⟨g, 0, none⟩) n n, .int .i64 (i : Int), .int .u32 m] w fun e w' => e = .returned (.tuple #[.agg #[.int .u64 (S i), .int .u32 m], .slice (some ⟨g, 0, none⟩) N n]) ∧ w.grownBy w' (some g) ∧ w.heap.size < w'.heap.size ∧
      OwnRuns w' g 66 n N S' P') := hT
  clear hT
  go_enter Try.func24, Try.ntmps24
  go_wp2_with (refine wpList_make_is _ rfl _ _ 64 rfl 66 (.agg #[.int .u64 0, .int .u32 0]) 2 16 Try.underlying64 Try.info66 .i64 .i64 n rfl rfl (by omega) (by omega) ?_)
  intro w1 hrow hb1 hsz1
  have hO := OwnRuns.start S P hrow
  clear hrow
  have hR1 : RunsAt (w.alloc (Obj.cells #[Value.int IntKind.u64 0, Value.int IntKind.u32 0] 48)) b off n S P := hR.below ((Below.refl _ _).alloc (Nat.le_refl _) _) hb
  go_wp2
  go_loopw [9] (fun j wr => ∃ k : Nat, k ≤ n ∧ j = .int .i64 k ∧ OwnRuns wr (w.heap.size + 1) 66 n k S P ∧ Below (w.heap.size + 1) (w.alloc (Obj.cells #[Value.int IntKind.u64 0, Value.int IntKind.u32 0] 48)) wr ∧ wr.heap.size = w.heap.size + 2) (fun j _ => n - (intOf j).toNat)
  case atStart => exact ⟨0, Nat.zero_le _, rfl, hO, hb1, hsz1⟩
  case round =>
    obtain ⟨k, hk, rfl, hOk, hbk, hszk⟩ := hrel
    clear hO hb1 hsz1
    by_cases hlt : k < n
    · obtain ⟨g1, g2⟩ := (hR1.below hbk (by omega)) k hlt
      obtain ⟨⟨v1, c1⟩, ⟨v2, c2⟩, f1, f2⟩ := hOk.room k hlt
      have hs := hOk.step (S k) (P k) rfl rfl
      go_wp2
      go_region
      all_goals go_wp2
      all_goals go_roundw
      case rel => exact ⟨k + 1, by omega, by go_num, hs, ((hbk.setCell (Nat.le_refl _) _).setCell (Nat.le_refl _) _).drew, by simpa using hszk⟩
      case measure => simp [intOf]; omega
    · have hkn : k = n := by omega
      subst hkn
      go_wp2_with fail
      refine (HT.out _ _ hOk).mono ?_
      rintro e w2 ⟨rfl, hg2, hz2, hO2⟩
      have hb2 := hbk.trans (below_grown hg2 (by omega))
      clear hg2 hOk hbk
      go_wp2_with (refine wpList_make_is _ rfl _ _ 49 rfl 48 (.agg #[.int .u64 0, .int .u32 0]) 2 16 Try.underlying49 Try.info48 .i64 .i64 N rfl rfl (by omega) (by omega) ?_)
      intro w3 hrow3 hb3 hsz3
      have hO := OwnRuns.start S' P' hrow3
      clear hrow3
      have hRs : RunsAt (w2.alloc (Obj.cells #[Value.int IntKind.u64 (S i), Value.int IntKind.u32 m] 66)) (w.heap.size + 1) 0 N S' P' := (hO2.cells hoN).below ((Below.refl _ _).alloc (Nat.le_refl _) _) (by omega)
      clear hO2 HT hR hR1
      go_wp2
      go_loopw [13] (fun j wr => ∃ k : Nat, k ≤ N ∧ j = .int .i64 k ∧ OwnRuns wr (w2.heap.size + 1) 48 N k S' P' ∧ Below (w2.heap.size + 1) (w2.alloc (Obj.cells #[Value.int IntKind.u64 (S i), Value.int IntKind.u32 m] 66)) wr ∧ wr.heap.size = w2.heap.size + 2) (fun j _ => N - (intOf j).toNat)
      case atStart => exact ⟨0, Nat.zero_le _, rfl, hO, hb3, hsz3⟩
      case round =>
        obtain ⟨l, hl, rfl, hOl, hbl, hszl⟩ := hrel
        clear hO hb3 hsz3
        by_cases hlt2 : l < N
        · obtain ⟨g1, g2⟩ := (hRs.below hbl (by omega)) l hlt2
          rw [Nat.zero_add] at g1 g2
          obtain ⟨⟨v1, c1⟩, ⟨v2, c2⟩, f1, f2⟩ := hOl.room l hlt2
          have hs := hOl.step (S' l) (P' l) rfl rfl
          go_wp2
          go_region
          all_goals go_wp2
          all_goals go_roundw
          case rel => exact ⟨l + 1, by omega, by go_num, hs, ((hbl.setCell (Nat.le_refl _) _).setCell (Nat.le_refl _) _).drew, by simpa using hszl⟩
          case measure => simp [intOf]; omega
        · have hkl : l = N := by omega
          subst hkl
          have c1 := (hbl.cell (p := ⟨w2.heap.size, 0, none⟩) (by simp)).trans (show _ = some (.int .u64 (S i)) by simp [go_sem])
          have c2 := (hbl.cell (p := ⟨w2.heap.size, 1, none⟩) (by simp)).trans (show _ = some (.int .u32 m) by simp [go_sem])
          have hbb := hb2.trans (((Below.refl _ w2).alloc (by omega) (Obj.cells #[Value.int IntKind.u64 (S i), Value.int IntKind.u32 m] 66)).trans (hbl.mono (by omega)))
          have d1 := (hbb.cell (p := ⟨w.heap.size, 0, none⟩) (by simp)).trans (show _ = some (.int .u64 0) by simp [go_sem])
          have d2 := (hbb.cell (p := ⟨w.heap.size, 1, none⟩) (by simp)).trans (show _ = some (.int .u32 0) by simp [go_sem])
          have q1 : ∀ o, _ = false := fun o => (hbb.frozen (p := ⟨w.heap.size, o, none⟩) (by simp)).trans (show _ = false by simp [go_sem])
          have hbw := ((Below.refl w.heap.size w).alloc (Nat.le_refl _) (Obj.cells #[Value.int IntKind.u64 0, Value.int IntKind.u32 0] 48)).trans (hbb.mono (by omega))
          have hRl := hOl.cells (Nat.le_refl _)
          clear hbb hbl hOl hb2 hRs
          go_wp2
          refine bodyPost_ret (v := .tuple #[.agg #[.int .u64 (S i), .int .u32 m], .slice (some ⟨w2.heap.size + 1, 0, none⟩) l l]) (by simp [results, Try.results24, go_sem, d1, d2]) rfl ⟨w2.heap.size + 1, rfl, (hbw.setCell (Nat.le_refl _) _).setCell (Nat.le_refl _) _, by omega, by simp; omega, ?_⟩
          exact (hRl.other (by simp; omega) _).other (by simp; omega) _
end Go.Proofs.Qxb6602657a
