/-
  THE WALK of 'FnTakeRunCutsNPagesOffTheHeadOfRunI' (5): its ways ahead of the call, and the way through it.
-/
import Derived.Test.Qxb6602657aRuns
import Derived.Deep.QuietTactic
import Derived.BigQuiet
namespace Go.Proofs.Qxb6602657a.fnTakeRunCutsNPagesOffTheHeadOfRunI
open Go.RowKit
set_option linter.unusedVariables false

/-- the ways on which the law returns ahead of the call -/
theorem early_long (a : Option Addr) (n c : Nat) (i m : Int) (w : World) (hn : 65536 < n) :
    Calls Try.prog 5 #[.slice a n c, .int .i64 i, .int .u32 m] w fun e w' => e = .returned (.bool true) ∧ Below w.heap.size w w' := by
  by_cases h : 1048576 < n
  · go_enter Try.func5, Try.ntmps5
    go_wp2
    go_ret
    exact ⟨rfl, Below.refl _ _⟩
  · go_enter Try.func5, Try.ntmps5
    go_wp2
    go_ret
    exact ⟨rfl, Below.refl _ _⟩
theorem early_out (a : Option Addr) (n c : Nat) (i m : Int) (w : World) (hn : n ≤ 65536) (hi : i < 0 ∨ (n : Int) ≤ i) :
    Calls Try.prog 5 #[.slice a n c, .int .i64 i, .int .u32 m] w fun e w' => e = .returned (.bool true) ∧ Below w.heap.size w w' := by
  by_cases h : i < 0
  · go_enter Try.func5, Try.ntmps5
    go_wp2
    go_ret
    exact ⟨rfl, Below.refl _ _⟩
  · have h2 : (n : Int) ≤ i := by omega
    clear hi
    go_enter Try.func5, Try.ntmps5
    go_wp2
    go_ret
    exact ⟨rfl, Below.refl _ _⟩
theorem early_few (b off n c i : Nat) (m : Int) (S P : Nat → Int) (w : World) (hn : n ≤ 65536) (hi : i < n) (hR : RunsAt w b off n S P) (hm : P i < m) :
    Calls Try.prog 5 #[.slice (some ⟨b, off, none⟩) n c, .int .i64 (i : Int), .int .u32 m] w fun e w' => e = .returned (.bool true) ∧ Below w.heap.size w w' := by
  have h1 := (hR i hi).2
  have hd : decide (m ≤ P i) = false := by simp; omega
  go_enter Try.func5, Try.ntmps5
  go_wp2
  go_ret
  exact ⟨rfl, Below.refl _ _⟩

set_option maxHeartbeats 1000000 in
theorem main (b off n c i : Nat) (m : Int) (S P : Nat → Int) (w : World) (hn : n ≤ 65536) (hb : b < w.heap.size) (hR : RunsAt w b off n S P) (hi : i < n) (hm0 : 0 ≤ m) (hm : m ≤ P i) (hP : P i ≤ 4294967295) (hS0 : 0 ≤ S i) (hS1 : S i ≤ 18446744073709551615) :
    Calls Try.prog 5 #[.slice (some ⟨b, off, none⟩) n c, .int .i64 (i : Int), .int .u32 m] w fun e w' => e = .returned (.bool true) ∧ Below w.heap.size w w' := by
  have hoN := outN_le n i m P
  have hT := fun (g : Nat) (w : World) (hb : g < w.heap.size) (hR : RunsAt w g 0 n S P) => zztake_any g 0 n n i m S P w hn hb hR hi hm0 hm hP hS0 hS1
  have hA := upTo_all n i m P hi
  obtain ⟨N, hN⟩ : ∃ N, N = outN n i m P := ⟨_, rfl⟩
  rw [← hN] at hT hA hoN
  have HT := hide hT
  have HA := hide hA
  have HN := hide hN
  clear hT hA hN
  have h1 := (hR i hi).2
  have hd : decide (m ≤ P i) = true := by simp; omega
  go_enter Try.func5, Try.ntmps5
  go_wp2_with (first | (go_at_call 21; go_in) | (go_at_call 22; go_in))
  refine (clone_any b off n c S P w hn hb hR).mono ?_
  rintro e w1 ⟨rfl, hb1, hR1, hz1⟩
  go_wp2_with fail
  refine (to_any w.heap.size 0 n n S P w1 hn hz1 hR1).mono ?_
  rintro e w2 ⟨rfl, hb2, hR2, hz2⟩
  go_wp2_with fail
  refine ((unhide HT) w1.heap.size w2 hz2 hR2).mono ?_
  rintro e w3 ⟨g, rfl, hb3, hg1, hg2, hR3⟩
  have hRb := (hR1.below hb2 hz1).below hb3 (by omega)
  have hbw := (hb1.trans (hb2.mono (by omega))).trans (hb3.mono (by omega))
  have q1 : w.heap.size < w3.heap.size := by omega
  clear hR1 hR2 hb1 hb2 hb3 HT h1
  go_wp2
  obtain ⟨w4, hw4⟩ : ∃ w4, w4 = w3.alloc (Obj.cells #[Value.int IntKind.u64 (S i), Value.int IntKind.u32 m] 48) := ⟨_, rfl⟩
  have hb34 : Below w3.heap.size w3 w4 := by rw [hw4]; exact (Below.refl _ _).alloc (Nat.le_refl _) _
  have d1 : w4.cell? ⟨w3.heap.size, 0, none⟩ = some (.int .u64 (S i)) := by rw [hw4]; simp [go_sem]
  have d2 : w4.cell? ⟨w3.heap.size, 1, none⟩ = some (.int .u32 m) := by rw [hw4]; simp [go_sem]
  have hz4 : w4.heap.size = w3.heap.size + 1 := by rw [hw4]; simp
  rw [← hw4]
  clear hw4
  have hR4 := hRb.below hb34 q1
  have hG4 := hR3.below hb34 hg2
  have hbw4 := hbw.trans (hb34.mono (by omega))
  obtain ⟨c1, c2⟩ := hR4 i hi
  rw [Nat.zero_add] at c1 c2
  clear hRb hR3 hbw hb34
  have hi2 : (i : Int) < (n : Int) := by omega
  go_quiet (fail)
  go_wp2_with (refine wpList_make_room _ rfl _ _ 42 rfl 53 (.agg #[.int .u64 0, .int .u32 0]) 2 16 Try.underlying42 Try.info53 .i64 .i64 n rfl rfl (by omega) (by omega) ?_)
  intro w5 hrow hb5 hsz5
  have hO5 := OwnRuns.start (outS i m S P) (outP i m P) hrow
  have hb45 : Below (w3.heap.size + 1) w4 w5 := (below_drewN (Below.refl _ _) nq).trans hb5
  clear hrow hb5 c1 c2 d1 d2
  obtain ⟨i0, hi0, hz00, hz01, hz02⟩ := info_parts Try.info53
  obtain ⟨S', hS'⟩ : ∃ S', S' = outS i m S P := ⟨_, rfl⟩
  obtain ⟨P', hP'⟩ : ∃ P', P' = outP i m P := ⟨_, rfl⟩
  have hoth := fun k hk => upTo_other i m S P k hk
  have hher := fun hk => upTo_here i m S P hk
  rw [← hS', ← hP'] at hO5 hG4 hoth hher
  have HO := hide hoth
  have HH := hide hher
  have hO6 : OwnRuns w5 (w3.heap.size + 1) 53 n (upTo i m P 0) S' P' := by simpa [upTo] using hO5
  clear hS' hP' hoth hher hO5
  go_wp2
  go_loopw [9, 10] (fun want j wr => ∃ k : Nat, k ≤ n ∧ j = .int .i64 k ∧ want = .slice (some ⟨w3.heap.size + 1, 0, none⟩) (upTo i m P k) n ∧ OwnRuns wr (w3.heap.size + 1) 53 n (upTo i m P k) S' P' ∧ Below (w3.heap.size + 1) w4 wr ∧ w3.heap.size + 2 ≤ wr.heap.size) (fun _ j _ => n - (intOf j).toNat)
  case atStart => exact ⟨0, Nat.zero_le _, rfl, by simp [upTo], hO6, hb45, by omega⟩
  case round =>
    obtain ⟨k, hk, rfl, rfl, hOk, hbk, hszk⟩ := hrel
    clear hO6 hb45 hsz5
    have hUk := upTo_le i m P k
    obtain ⟨U, hU⟩ : ∃ U, U = upTo i m P k := ⟨_, rfl⟩
    rw [← hU] at hOk hUk ⊢
    have HU := hide hU
    clear hU
    by_cases hlt : k < n
    · obtain ⟨g1, g2⟩ := (hR4.below hbk (by omega)) k hlt
      rw [Nat.zero_add] at g1 g2
      by_cases hki : k = i
      · subst hki
        by_cases hPm : P k = m
        · have hU1 := upTo_gone k m P hPm
          rw [← unhide HU] at hU1
          have E3 := hide hU1
          have hf : (P k != m) = false := by simp [hPm]
          clear hU1
          go_wp2
          go_roundw
          case rel => exact ⟨k + 1, by omega, by go_num, by rw [unhide E3], by rw [unhide E3]; exact hOk, hbk, by omega⟩
          case measure => simp [intOf]; omega
        · obtain ⟨e1, e2, e3⟩ := unhide HH hPm
          rw [← unhide HU] at e1 e2 e3
          have hf : (P k != m) = true := by simp [hPm]
          have hc0 : (wr.alloc (Obj.cells #[Value.int IntKind.u64 (IntKind.u64.wrap (S k + m)), Value.int IntKind.u32 (P k - m)] 53)).drew.cell? ⟨wr.heap.size, 0, none⟩ = some (.int .u64 (S' U)) := by rw [e1]; simp [go_sem]
          have hc1 : (wr.alloc (Obj.cells #[Value.int IntKind.u64 (IntKind.u64.wrap (S k + m)), Value.int IntKind.u32 (P k - m)] 53)).drew.cell? (Addr.add ⟨wr.heap.size, 0, none⟩ 1) = some (.int .u32 (P' U)) := by rw [e2]; simp [go_sem, Addr.add]
          have H0 := hide hc0
          have H1 := hide hc1
          have E3 := hide e3
          have hki2 : (k : Int) < (n : Int) := by omega
          have hwm : IntKind.u64.wrap m = m := by rw [IntKind.wrap_u64]; omega
          have hwp : IntKind.u32.wrap (P k - m) = P k - m := by rw [IntKind.wrap_u32]; omega
          clear e1 e2 e3 hc0 hc1
          go_wp2_with fail
          go_region_law (refine step_append_run rfl (.tmp 75) (.tmp 92) 42 rfl 53 i0 Try.underlying42 hi0 hz01 (w3.heap.size + 1) U n S' P' (by simp [Act.eval]) ((hOk.alloc _).alike rfl) (by omega) ⟨wr.heap.size, 0, none⟩ 1 (by simp [Act.eval]) (unhide H0) (unhide H1) ?_; intro w6 hO6 hg6 hz6)
          all_goals
            have hb6 := hbk.trans (((Below.refl _ wr).alloc (by omega) (Obj.cells #[Value.int IntKind.u64 (IntKind.u64.wrap (S k + m)), Value.int IntKind.u32 (P k - m)] 53)).drew.trans (below_grown hg6 (by simp; omega)))
            have hz7 : w6.heap.size = wr.heap.size + 1 := by rw [hz6]; simp
            clear H0 H1 hg6 hOk g1 g2 hz6
            go_wp2
            go_roundw
            case rel => exact ⟨k + 1, by omega, by go_num, by rw [unhide E3], by rw [unhide E3]; exact hO6, hb6, by omega⟩
            case measure => simp [intOf]; omega
      · obtain ⟨e1, e2, e3⟩ := unhide HO k hki
        rw [← unhide HU] at e1 e2 e3
        have hc0 : (wr.alloc (Obj.cells #[Value.int IntKind.u64 (S k), Value.int IntKind.u32 (P k)] 53)).cell? ⟨wr.heap.size, 0, none⟩ = some (.int .u64 (S' U)) := by rw [e1]; simp [go_sem]
        have hc1 : (wr.alloc (Obj.cells #[Value.int IntKind.u64 (S k), Value.int IntKind.u32 (P k)] 53)).cell? (Addr.add ⟨wr.heap.size, 0, none⟩ 1) = some (.int .u32 (P' U)) := by rw [e2]; simp [go_sem, Addr.add]
        have H0 := hide hc0
        have H1 := hide hc1
        have E3 := hide e3
        clear e1 e2 e3 hc0 hc1
        go_wp2_with (at_builtin; refine wpList_append_run _ rfl (.tmp 61) (.tmp 66) 42 rfl 53 i0 Try.underlying42 hi0 hz01 (w3.heap.size + 1) U n S' P' rfl (hOk.alloc _) (by omega) ⟨wr.heap.size, 0, none⟩ 1 rfl (unhide H0) (unhide H1) ?_)
        intro w6 hO6 hg6 hz6
        have hb6 := hbk.trans (((Below.refl _ wr).alloc (by omega) (Obj.cells #[Value.int IntKind.u64 (S k), Value.int IntKind.u32 (P k)] 53)).trans (below_grown hg6 (by simp; omega)))
        clear H0 H1 hg6 hOk g1 g2
        go_wp2
        go_roundw
        case rel => exact ⟨k + 1, by omega, by go_num, by rw [unhide E3], by rw [unhide E3]; exact hO6, hb6, by omega⟩
        case measure => simp [intOf]; omega
    · have hkn : k = n := by omega
      subst hkn
      have hUN : U = N := (unhide HU).trans (unhide HA)
      subst hUN
      have hW := hOk.cells (by omega)
      have hRr := hG4.below hbk (by omega)
      have hbwr := hbw4.trans (hbk.mono (by omega))
      clear hR4 hG4 hbk hbw4 HO HH HA HN HU hOk
      go_wp2
      go_loopw [11] (fun j wl => ∃ l : Nat, l ≤ U ∧ j = .int .i64 l ∧ Below wr.heap.size wr wl) (fun j _ => U - (intOf j).toNat)
      case atStart => exact ⟨0, Nat.zero_le _, rfl, Below.refl _ _⟩
      case round =>
        obtain ⟨l, hl, rfl, hbl⟩ := hrel
        by_cases hlt2 : l < U
        · obtain ⟨g1, g2⟩ := (hRr.below hbl (by omega)) l hlt2
          obtain ⟨g3, g4⟩ := (hW.below hbl (by omega)) l hlt2
          rw [Nat.zero_add] at g1 g2 g3 g4
          have hl2 : (l : Int) < (U : Int) := by omega
          go_wp2
          go_quiet (fail)
          go_wp2
          go_roundw
          case rel => exact ⟨l + 1, by omega, by go_num, below_drewN hbl _⟩
          case measure => simp [intOf]; omega
        · go_wp2
          go_ret
          exact ⟨rfl, hbwr.trans (hbl.mono (by have := hbwr.size; omega))⟩
end Go.Proofs.Qxb6602657a.fnTakeRunCutsNPagesOffTheHeadOfRunI
