/-
  THE WALK of 'FnTakeRunKeepsFreeRunsSortedDisjointAndCounted' (6), and of zzSortedDisjointB1 (27).
-/
import Derived.Test.Qxb6602657aRuns
import Derived.Test.Qxb6602657aPlain
import Derived.Deep.QuietTactic
import Derived.BigQuiet
namespace Go.Proofs.Qxb6602657a
open Go.RowKit
set_option linter.unusedVariables false


/-! ### zzSortedDisjointB1 (27) -/
set_option maxHeartbeats 1000000 in
theorem sorted_any (b off n c : Nat) (S P : Nat → Int) (w : World) (hn : n ≤ 65536) (hb : b < w.heap.size) (hR : RunsAt w b off n S P) (hk : InKind n S P) :
    Calls Try.prog 27 #[.slice (some ⟨b, off, none⟩) n c] w fun e w' => ∃ r : Bool, e = .returned (.bool r) ∧ (r = true ↔ SD n S P) ∧ Below w.heap.size w w' := by
  go_enter Try.func27, Try.ntmps27
  go_wp2
  go_loopw [3] (fun j wr => ∃ k : Nat, k ≤ n ∧ j = .int .i64 k ∧ (∀ l, l < k → okAt n S P l) ∧ Below w.heap.size w wr) (fun j _ => n - (intOf j).toNat)
  case atStart => exact ⟨0, Nat.zero_le _, rfl, fun l hl => absurd hl (by omega), Below.refl _ _⟩
  case round =>
    obtain ⟨k, hkn, rfl, hok, hbk⟩ := hrel
    have HOK := hide hok
    clear hok
    by_cases hlt : k < n
    · obtain ⟨g1, g2⟩ := (hR.below hbk hb) k hlt
      obtain ⟨⟨s0, s1⟩, p0, p1⟩ := hk k hlt
      have hlt' : (k : Int) < (n : Int) := by omega
      have hw1 : IntKind.u64.wrap (P k) = P k := by rw [IntKind.wrap_u64]; omega
      have hw2 : IntKind.u64.wrap (18446744073709551615 - P k) = 18446744073709551615 - P k := by rw [IntKind.wrap_u64]; omega
      by_cases h1 : S k + P k ≤ 18446744073709551615
      · have hd : decide (18446744073709551615 - P k < S k) = false := by simp; omega
        have hw3 : IntKind.u64.wrap (S k + P k) = S k + P k := by rw [IntKind.wrap_u64]; omega
        by_cases h2 : k + 1 < n
        · obtain ⟨g3, _⟩ := (hR.below hbk hb) (k + 1) h2
          have h2' : (k : Int) + 1 < (n : Int) := by omega
          have hwk : IntKind.i64.wrap ((k : Int) + 1) = (k : Int) + 1 := by rw [IntKind.wrap_i64]; omega
          have hp0 : (0 : Int) ≤ (k : Int) + 1 := by omega
          have hp2 : ((k : Int) + 1).toNat = k + 1 := by omega
          by_cases h3 : S k + P k ≤ S (k + 1)
          · have hd3 : decide (S (k + 1) < S k + P k) = false := by simp; omega
            go_wp2
            go_quiet (fail)
            go_wp2
            go_quiet (fail)
            go_wp2
            go_roundw
            case rel =>
              refine ⟨k + 1, by omega, by go_num, fun l hl => ?_, below_drewN hbk _⟩
              by_cases e : l = k
              · subst e; exact ⟨h1, fun _ => h3⟩
              · exact unhide HOK l (by omega)
            case measure => simp [intOf]; omega
          · have hd3 : decide (S (k + 1) < S k + P k) = true := by simp; omega
            have hno : ¬ SD n S P := fun h => h3 ((h k hlt).2 h2)
            have HNO := hide hno
            clear hno
            go_wp2
            go_quiet (fail)
            go_wp2
            go_quiet (fail)
            go_wp2
            go_ret
            exact ⟨false, rfl, by simp; exact unhide HNO, below_drewN (below_drewN hbk _) _⟩
        · have h2' : decide ((k : Int) + 1 < (n : Int)) = false := by simp; omega
          go_wp2
          go_quiet (fail)
          go_wp2
          go_quiet (fail)
          go_wp2
          go_roundw
          case rel =>
            refine ⟨k + 1, by omega, by go_num, fun l hl => ?_, below_drewN hbk _⟩
            by_cases e : l = k
            · subst e; exact ⟨h1, fun h => absurd h h2⟩
            · exact unhide HOK l (by omega)
          case measure => simp [intOf]; omega
      · have hd : decide (18446744073709551615 - P k < S k) = true := by simp; omega
        have hno : ¬ SD n S P := fun h => h1 (h k hlt).1
        have HNO := hide hno
        clear hno
        go_wp2
        go_quiet (fail)
        go_wp2
        go_ret
        exact ⟨false, rfl, by simp; exact unhide HNO, below_drewN hbk _⟩
    · go_wp2
      go_ret
      exact ⟨true, rfl, by simp; intro j hj; exact unhide HOK j (by omega), hbk⟩

namespace fnTakeRunKeepsFreeRunsSortedDisjointAndCounted
/-- the ways on which the law returns ahead of the call -/
theorem early_long (a : Option Addr) (n c : Nat) (i m : Int) (w : World) (hn : 65536 < n) :
    Calls Try.prog 6 #[.slice a n c, .int .i64 i, .int .u32 m] w fun e w' => e = .returned (.bool true) ∧ Below w.heap.size w w' := by
  by_cases h : 1048576 < n
  · go_enter Try.func6, Try.ntmps6
    go_wp2
    go_ret
    exact ⟨rfl, Below.refl _ _⟩
  · go_enter Try.func6, Try.ntmps6
    go_wp2
    go_ret
    exact ⟨rfl, Below.refl _ _⟩
theorem early_out (a : Option Addr) (n c : Nat) (i m : Int) (w : World) (hn : n ≤ 65536) (hi : i < 0 ∨ (n : Int) ≤ i) :
    Calls Try.prog 6 #[.slice a n c, .int .i64 i, .int .u32 m] w fun e w' => e = .returned (.bool true) ∧ Below w.heap.size w w' := by
  by_cases h : i < 0
  · go_enter Try.func6, Try.ntmps6
    go_wp2
    go_ret
    exact ⟨rfl, Below.refl _ _⟩
  · have h2 : (n : Int) ≤ i := by omega
    clear hi
    go_enter Try.func6, Try.ntmps6
    go_wp2
    go_ret
    exact ⟨rfl, Below.refl _ _⟩
theorem early_few (b off n c i : Nat) (m : Int) (S P : Nat → Int) (w : World) (hn : n ≤ 65536) (hi : i < n) (hR : RunsAt w b off n S P) (hm : P i < m) :
    Calls Try.prog 6 #[.slice (some ⟨b, off, none⟩) n c, .int .i64 (i : Int), .int .u32 m] w fun e w' => e = .returned (.bool true) ∧ Below w.heap.size w w' := by
  have h1 := (hR i hi).2
  have hd : decide (m ≤ P i) = false := by simp; omega
  go_enter Try.func6, Try.ntmps6
  go_wp2
  go_ret
  exact ⟨rfl, Below.refl _ _⟩



set_option maxHeartbeats 1000000 in
set_option maxRecDepth 100000 in
theorem main (b off n c i : Nat) (m : Int) (S P : Nat → Int) (w : World) (hn : n ≤ 65536) (hb : b < w.heap.size) (hR : RunsAt w b off n S P) (hK : InKind n S P) (hi : i < n) (hm0 : 0 ≤ m) (hm : m ≤ P i) :
    Calls Try.prog 6 #[.slice (some ⟨b, off, none⟩) n c, .int .i64 (i : Int), .int .u32 m] w fun e w' => e = .returned (.bool true) ∧ Below w.heap.size w w' := by
  obtain ⟨⟨s0, s1⟩, p0, p1⟩ := hK i hi
  have hoN := outN_le n i m P
  have hT := fun (g : Nat) (w : World) (hb : g < w.heap.size) (hR : RunsAt w g 0 n S P) => zztake_any g 0 n n i m S P w hn hb hR hi hm0 hm p1 s0 s1
  have hQ1 := fun h => out_inKind hK h hi hm0 hm
  have hQ2 := fun h => out_SD hK h hi hm0 hm
  have hQ3 := fun h => out_apart hK h hi hm0 hm
  have hQ4 := out_sum (n := n) (m := m) (P := P) hi
  obtain ⟨N, hN⟩ : ∃ N, N = outN n i m P := ⟨_, rfl⟩
  obtain ⟨S', hS'⟩ : ∃ S', S' = outS i m S P := ⟨_, rfl⟩
  obtain ⟨P', hP'⟩ : ∃ P', P' = outP i m P := ⟨_, rfl⟩
  rw [← hN] at hT hoN hQ1 hQ2 hQ3 hQ4
  rw [← hP'] at hT hQ1 hQ2 hQ3 hQ4
  rw [← hS'] at hT hQ1 hQ2 hQ3
  have HT := hide hT
  have HQ1 := hide hQ1
  have HQ2 := hide hQ2
  have HQ3 := hide hQ3
  have HQ4 := hide hQ4
  have HK := hide hK
  clear hT hQ1 hQ2 hQ3 hQ4 hN hS' hP' hK
  have h1 := (hR i hi).2
  have hd : decide (m ≤ P i) = true := by simp; omega
  go_enter Try.func6, Try.ntmps6
  go_wp2_with (first | (go_at_call 26; go_in) | (go_at_call 22; go_in))
  refine (clone_any b off n c S P w hn hb hR).mono ?_
  rintro e w1 ⟨rfl, hb1, hR1, hz1⟩
  go_wp2_with fail
  refine (to_any w.heap.size 0 n n S P w1 hn hz1 hR1).mono ?_
  rintro e w2 ⟨rfl, hb2, hR2, hz2⟩
  go_wp2_with fail
  refine (sorted_any w1.heap.size 0 n n S P w2 hn hz2 hR2 (unhide HK)).mono ?_
  rintro e w3 ⟨r, rfl, hr, hb3⟩
  have hR1' := (hR1.below hb2 hz1).below hb3 (by omega)
  have hR2' := hR2.below hb3 hz2
  have hbw := (hb1.trans (hb2.mono (by omega))).trans (hb3.mono (by omega))
  have hz3 := hb3.size
  clear hR1 hR2 hb1 hb2 hb3 h1
  cases r
  · clear hr
    go_wp2
    go_ret
    exact ⟨rfl, hbw⟩
  have hSD : SD n S P := hr.1 rfl
  have HSD := hide hSD
  clear hr hSD
  go_wp2
  go_loopw [8, 9] (fun t j wr => ∃ k : Nat, k ≤ n ∧ j = .int .i64 k ∧ t = .int .u64 (sumTo P k) ∧ wr = w3) (fun _ j _ => n - (intOf j).toNat)
  case atStart => exact ⟨0, Nat.zero_le _, rfl, rfl, rfl⟩
  case round =>
    obtain ⟨k, hk, rfl, rfl, rfl⟩ := hrel
    have hsb := sumTo_bd (unhide HK) k hk
    by_cases hlt : k < n
    · obtain ⟨g1, g2⟩ := hR1' k hlt
      rw [Nat.zero_add] at g1 g2
      obtain ⟨_, q0, q1⟩ := (unhide HK) k hlt
      have hs1 : sumTo P (k + 1) = sumTo P k + P k := rfl
      have HS := hide hs1
      clear hs1
      go_wp2
      go_roundw
      case rel => exact ⟨k + 1, by omega, by go_num, by rw [unhide HS], by first | rfl | trivial⟩
      case measure => simp [intOf]; omega
    · have hkn : k = n := by omega
      subst hkn
      go_wp2_with fail
      refine ((unhide HT) w1.heap.size wr (by omega) hR2').mono ?_
      rintro e w4 ⟨g, rfl, hb4, hg1, hg2, hR4⟩
      have hRo := hR1'.below hb4 (by omega)
      have hbw4 := hbw.trans (hb4.mono (by omega))
      have hz4 := hb4.size
      clear hR1' hR2' hb4 hbw HT hR
      go_wp2_with fail
      obtain ⟨w5, hw5⟩ : ∃ w5, w5 = w4.alloc (Obj.cells #[Value.int IntKind.u64 (S i), Value.int IntKind.u32 m] 48) := ⟨_, rfl⟩
      have hb45 : Below w4.heap.size w4 w5 := by rw [hw5]; exact (Below.refl _ _).alloc (Nat.le_refl _) _
      have d1 : w5.cell? ⟨w4.heap.size, 0, none⟩ = some (.int .u64 (S i)) := by rw [hw5]; simp [go_sem]
      have d2 : w5.cell? ⟨w4.heap.size, 1, none⟩ = some (.int .u32 m) := by rw [hw5]; simp [go_sem]
      have hz5 : w4.heap.size < w5.heap.size := by rw [hw5]; simp
      rw [← hw5]
      clear hw5
      refine (sorted_any g 0 N N S' P' w5 (by omega) (by omega) (hR4.below hb45 hg2) (unhide HQ1 (unhide HSD))).mono ?_
      rintro e w6 ⟨r, rfl, hr, hb6⟩
      have hrt : r = true := hr.2 (unhide HQ2 (unhide HSD))
      subst hrt
      have hI := (hRo.below hb45 (by omega)).below hb6 (by omega)
      have hJ := (hR4.below hb45 hg2).below hb6 (by omega)
      have hbw6 := (hbw4.trans (hb45.mono (by omega))).trans (hb6.mono (by omega))
      have c1 := (hb6.cell (p := ⟨w4.heap.size, 0, none⟩) (by exact hz5)).trans d1
      have c2 := (hb6.cell (p := ⟨w4.heap.size, 1, none⟩) (by exact hz5)).trans d2
      have hz6 := hb6.size
      obtain ⟨c3, c4⟩ := hI i hi
      rw [Nat.zero_add] at c3 c4
      clear hr hRo hb45 hb6 hR4 d1 d2 hbw4
      have hi2 : (i : Int) < (k : Int) := by omega
      have hwm : IntKind.u64.wrap m = m := by rw [IntKind.wrap_u64]; omega
      have hwP : IntKind.u64.wrap (P i) = P i := by rw [IntKind.wrap_u64]; omega
      have hwd : IntKind.u64.wrap (P i - m) = P i - m := by rw [IntKind.wrap_u64]; omega
      have hg1' : decide (P i < m) = false := by simp; omega
      have hg3' : decide (P i - m < 0) = false := by simp; omega
      have hsm := (unhide HSD i hi).1
      have hw0 : IntKind.u64.wrap 0 = 0 := by rw [IntKind.wrap_u64]; rfl
      go_wp2
      go_quiet (fail)
      go_wp2
      go_quiet (fail)
      go_wp2
      go_loopw [13, 14] (fun t j wl => ∃ l : Nat, l ≤ N ∧ j = .int .i64 l ∧ t = .int .u64 (sumTo P' l) ∧ Below w6.heap.size w6 wl) (fun _ j _ => N - (intOf j).toNat)
      case atStart => exact ⟨0, Nat.zero_le _, rfl, rfl, below_drewN (Below.refl _ _) _⟩
      case round =>
        obtain ⟨l, hl, rfl, rfl, hbl⟩ := hrel
        have hsb' := sumTo_bd (unhide HQ1 (unhide HSD)) l hl
        have e1 := (hbl.cell (p := ⟨w4.heap.size, 0, none⟩) (by show w4.heap.size < w6.heap.size; omega)).trans c1
        have e2 := (hbl.cell (p := ⟨w4.heap.size, 1, none⟩) (by show w4.heap.size < w6.heap.size; omega)).trans c2
        by_cases hlt2 : l < N
        · obtain ⟨g1, g2⟩ := (hJ.below hbl (by omega)) l hlt2
          rw [Nat.zero_add] at g1 g2
          obtain ⟨⟨a0, a1⟩, b0, b1⟩ := unhide HQ1 (unhide HSD) l hlt2
          have hle := (unhide HQ2 (unhide HSD) l hlt2).1
          have hl2 : (l : Int) < (N : Int) := by omega
          have hv1 : IntKind.u64.wrap (P' l) = P' l := by rw [IntKind.wrap_u64]; omega
          have hv2 : IntKind.u64.wrap (S' l + P' l) = S' l + P' l := by rw [IntKind.wrap_u64]; omega
          have HS := hide (show sumTo P' (l + 1) = sumTo P' l + P' l from rfl)
          have hap := unhide HQ3 (unhide HSD) l hlt2
          by_cases hle2 : S' l + P' l ≤ S i
          · clear hap
            go_wp2
            go_quiet (fail)
            go_wp2
            go_roundw
            case rel => exact ⟨l + 1, by omega, by go_num, by rw [unhide HS], below_drewN hbl _⟩
            case measure => simp [intOf]; omega
          · have hle3 : S i + m ≤ S' l := by omega
            clear hap
            go_wp2
            go_quiet (fail)
            go_wp2
            go_roundw
            case rel => exact ⟨l + 1, by omega, by go_num, by rw [unhide HS], below_drewN hbl _⟩
            case measure => simp [intOf]; omega
        · have hlN : l = N := by omega
          subst hlN
          have hfin : (sumTo P' l + m == sumTo P k) = true := by rw [unhide HQ4]; simp
          go_wp2
          go_ret
          exact ⟨rfl, hbw6.trans (hbl.mono (by have := hbw6.size; omega))⟩
end fnTakeRunKeepsFreeRunsSortedDisjointAndCounted
end Go.Proofs.Qxb6602657a
