/-
  THE WALK of 'FnThrottleStreakRejectScript' (6), and of its callees (*throttleStreak).reject (13) and ZZThrottleStreakReject (10).
-/
import Derived.Test.Qxb6602742aProg
import Derived.Test.Qxb6602742aMem
import Derived.BigQuiet
namespace Go.Proofs.Qxb6602742a
open Go.RowKit
set_option linter.unusedVariables false

/-- the newest clean bucket behind a rejection at n -/
def rejC (lc pc n : Int) : Int := if n = lc then pc else lc
/-- the newest bucket of a long streak behind a rejection at n -/
def rejG (lc pc lg n : Int) : Int := if 60 < n - rejC lc pc n then n else lg

/-- Block B is a streak of the call's own. -/
def IsStreak (w : World) (B : Nat) (lc pc lr lg : Int) : Prop :=
  w.cell? ⟨B, 0, none⟩ = some (.int .i64 lc) ∧ w.cell? ⟨B, 1, none⟩ = some (.int .i64 pc) ∧ w.cell? ⟨B, 2, none⟩ = some (.int .i64 lr) ∧ w.cell? ⟨B, 3, none⟩ = some (.int .i64 lg) ∧ ∀ o, w.frozen? ⟨B, o, none⟩ = false

theorem IsStreak.set0 {w : World} {B : Nat} {lc pc lr lg : Int} (h : IsStreak w B lc pc lr lg) (x : Int) : IsStreak (w.setCell ⟨B, 0, none⟩ (.int .i64 x)) B x pc lr lg := by
  obtain ⟨k0, k1, k2, k3, hf⟩ := h
  exact ⟨by simp [go_sem, k0], by simp [go_sem, k1], by simp [go_sem, k2], by simp [go_sem, k3], fun o => by simp [go_sem, hf]⟩
theorem IsStreak.set2 {w : World} {B : Nat} {lc pc lr lg : Int} (h : IsStreak w B lc pc lr lg) (x : Int) : IsStreak (w.setCell ⟨B, 2, none⟩ (.int .i64 x)) B lc pc x lg := by
  obtain ⟨k0, k1, k2, k3, hf⟩ := h
  exact ⟨by simp [go_sem, k0], by simp [go_sem, k1], by simp [go_sem, k2], by simp [go_sem, k3], fun o => by simp [go_sem, hf]⟩
theorem IsStreak.set3 {w : World} {B : Nat} {lc pc lr lg : Int} (h : IsStreak w B lc pc lr lg) (x : Int) : IsStreak (w.setCell ⟨B, 3, none⟩ (.int .i64 x)) B lc pc lr x := by
  obtain ⟨k0, k1, k2, k3, hf⟩ := h
  exact ⟨by simp [go_sem, k0], by simp [go_sem, k1], by simp [go_sem, k2], by simp [go_sem, k3], fun o => by simp [go_sem, hf]⟩
theorem below_set {B : Nat} {w w' : World} (h : Below B w w') (o : Nat) (v : Value) : Below B w (w'.setCell ⟨B, o, none⟩ v) := h.setCell (Nat.le_refl _) v

/-! ### (*throttleStreak).reject (13) -/
set_option maxHeartbeats 1000000 in
theorem reject13 (B : Nat) (lc pc lr lg n : Int) (w : World) (hS : IsStreak w B lc pc lr lg) (c0 : 0 ≤ lc) (c1 : lc ≤ 9223372036854775807) (p0 : 0 ≤ pc) (p1 : pc ≤ 9223372036854775807) (n0 : 0 ≤ n) (n1 : n ≤ 9223372036854775807) :
    Calls Try.prog 13 #[.pointer (some ⟨B, 0, none⟩), .int .i64 n] w fun e w' => e = .returned (.tuple #[]) ∧ IsStreak w' B (rejC lc pc n) pc n (rejG lc pc lg n) ∧ Below B w w' := by
  have HS := hide hS
  obtain ⟨k0, k1, k2, k3, hf⟩ := hS
  by_cases h1 : n = lc
  · have e1 : rejC lc pc n = pc := by simp [rejC, h1]
    have hb : (n == lc) = true := by simp [h1]
    by_cases h2 : 60 < n - pc
    · have e2 : rejG lc pc lg n = n := by simp [rejG, e1, h2]
      rw [e1, e2]
      clear e1 e2 h1
      go_enter Try.func13, Try.ntmps13
      go_wp2
      go_end0
      exact ⟨rfl, (((unhide HS).set0 _).set2 _).set3 _, below_set (below_set (below_set (Below.refl _ _) _ _) _ _) _ _⟩
    · have e2 : rejG lc pc lg n = lg := by simp [rejG, e1, h2]
      rw [e1, e2]
      clear e1 e2 h1
      go_enter Try.func13, Try.ntmps13
      go_wp2
      go_end0
      exact ⟨rfl, ((unhide HS).set0 _).set2 _, below_set (below_set (Below.refl _ _) _ _) _ _⟩
  · have e1 : rejC lc pc n = lc := by simp [rejC, h1]
    have hb : (n == lc) = false := by simp [h1]
    by_cases h2 : 60 < n - lc
    · have e2 : rejG lc pc lg n = n := by simp [rejG, e1, h2]
      rw [e1, e2]
      clear e1 e2 h1
      go_enter Try.func13, Try.ntmps13
      go_wp2
      go_end0
      exact ⟨rfl, ((unhide HS).set2 _).set3 _, below_set (below_set (Below.refl _ _) _ _) _ _⟩
    · have e2 : rejG lc pc lg n = lg := by simp [rejG, e1, h2]
      rw [e1, e2]
      clear e1 e2 h1
      go_enter Try.func13, Try.ntmps13
      go_wp2
      go_end0
      exact ⟨rfl, (unhide HS).set2 _, below_set (Below.refl _ _) _ _⟩

/-! ### ZZThrottleStreakReject (10) -/
set_option maxHeartbeats 1000000 in
theorem reject_any (lc pc lr lg n : Int) (w : World) (c0 : 0 ≤ lc) (c1 : lc ≤ 9223372036854775807) (p0 : 0 ≤ pc) (p1 : pc ≤ 9223372036854775807) (n0 : 0 ≤ n) (n1 : n ≤ 9223372036854775807) :
    Calls Try.prog 10 #[.int .i64 lc, .int .i64 pc, .int .i64 lr, .int .i64 lg, .int .i64 n] w fun e w' => e = .returned (.tuple #[.int .i64 (rejC lc pc n), .int .i64 pc, .int .i64 n, .int .i64 (rejG lc pc lg n)]) ∧ Below w.heap.size w w' := by
  have H1 := hide (reject13 w.heap.size lc pc lr lg n (w.alloc (Obj.cells #[.int .i64 lc, .int .i64 pc, .int .i64 lr, .int .i64 lg] 36)) ⟨by simp [go_sem], by simp [go_sem], by simp [go_sem], by simp [go_sem], fun o => by simp [go_sem]⟩ c0 c1 p0 p1 n0 n1)
  obtain ⟨X, hX⟩ : ∃ X, X = rejC lc pc n := ⟨_, rfl⟩
  obtain ⟨Y, hY⟩ : ∃ Y, Y = rejG lc pc lg n := ⟨_, rfl⟩
  rw [← hX, ← hY] at H1 ⊢
  clear hX hY
  go_enter Try.func10, Try.ntmps10
  go_wp2_with fail
  refine (unhide H1).mono ?_
  rintro e w1 ⟨rfl, ⟨k0, k1, k2, k3, hf⟩, hb⟩
  have hbw := ((Below.refl w.heap.size w).alloc (Nat.le_refl _) (Obj.cells #[.int .i64 lc, .int .i64 pc, .int .i64 lr, .int .i64 lg] 36)).trans hb
  clear hb H1
  go_wp2
  go_quiet (fail)
  go_wp2
  exact bodyPost_ret (v := .tuple #[.int .i64 X, .int .i64 pc, .int .i64 n, .int .i64 Y]) (by simp [results, Try.results10, go_sem]) rfl ⟨rfl, below_drewN hbw _⟩

theorem Try.info2 : (Try.prog.info? 2).map (fun i => (i.zero, i.size, i.bytes)) = some (some (.int .i64 0), 1, 8) := by kernel_rfl

/-! ### the plain law of one step -/
/-- what holds of the state ahead of a rejection at n -/
def Fits (a0 a1 lc lg : Int) (seen : Bool) (n : Int) : Prop := lg ≤ n ∧ (seen = true → 60 < n - lc)
theorem step_facts {a0 a1 lc lg n : Int} {seen : Bool} (hl : lc = a0 ∨ lc = a1) (h10 : a1 ≤ a0) (hF : Fits a0 a1 lc lg seen n) :
    (rejC lc a1 n = a0 ∨ rejC lc a1 n = a1) ∧ rejC lc a1 n ≤ lc ∧ lg ≤ rejG lc a1 lg n ∧ rejG lc a1 lg n ≤ n ∧
      (rejG lc a1 lg n ≠ lg ∨ seen = true → rejG lc a1 lg n = n ∧ 60 < n - rejC lc a1 n) := by
  obtain ⟨h1, h2⟩ := hF
  have hC : (rejC lc a1 n = a0 ∨ rejC lc a1 n = a1) ∧ rejC lc a1 n ≤ lc := by
    unfold rejC
    split <;> omega
  refine ⟨hC.1, hC.2, ?_⟩
  unfold rejG
  by_cases h : 60 < n - rejC lc a1 n
  · rw [if_pos h]
    exact ⟨h1, Int.le_refl _, fun _ => ⟨rfl, h⟩⟩
  · rw [if_neg h]
    refine ⟨Int.le_refl _, h1, fun hh => ?_⟩
    rcases hh with hh | hh
    · exact absurd rfl hh
    · have := h2 hh
      omega

namespace fnThrottleStreakRejectScript
/-- the numbers come in order, the first not ahead of the state -/
def Ordered (a0 a2 a3 : Int) (n : Nat) (Z : Nat → Int) : Prop := (0 < n → a0 ≤ Z 0 ∧ a2 ≤ Z 0 ∧ a3 ≤ Z 0) ∧ ∀ j, j + 1 < n → Z j ≤ Z (j + 1)

theorem ordered_ge {a0 a2 a3 : Int} {n : Nat} {Z : Nat → Int} (h : Ordered a0 a2 a3 n Z) : ∀ l, l < n → a0 ≤ Z l
  | 0, hl => (h.1 hl).1
  | l + 1, hl => Int.le_trans (ordered_ge h l (by omega)) (h.2 l hl)

set_option maxRecDepth 100000 in
theorem early (a0 a1 a2 a3 : Int) (a4 : Option Addr) (n c : Nat) (w : World) (h : 65536 < n ∨ a0 < 0 ∨ a1 < 0 ∨ a2 < 0 ∨ a3 < 0 ∨ a0 < a1) :
    Calls Try.prog 6 #[.int .i64 a0, .int .i64 a1, .int .i64 a2, .int .i64 a3, .slice a4 n c] w fun e w' => e = .returned (.bool true) ∧ Below w.heap.size w w' := by
  by_cases h1 : 1048576 < n
  · clear h
    go_enter Try.func6, Try.ntmps6
    go_wp2
    go_ret
    exact ⟨rfl, Below.refl _ _⟩
  by_cases h2 : 65536 < n
  · clear h
    go_enter Try.func6, Try.ntmps6
    go_wp2
    go_ret
    exact ⟨rfl, Below.refl _ _⟩
  by_cases h3 : a0 < 0
  · clear h
    go_enter Try.func6, Try.ntmps6
    go_wp2
    go_ret
    exact ⟨rfl, Below.refl _ _⟩
  by_cases h4 : a1 < 0
  · clear h
    go_enter Try.func6, Try.ntmps6
    go_wp2
    go_ret
    exact ⟨rfl, Below.refl _ _⟩
  by_cases h5 : a2 < 0
  · clear h
    go_enter Try.func6, Try.ntmps6
    go_wp2
    go_ret
    exact ⟨rfl, Below.refl _ _⟩
  by_cases h6 : a3 < 0
  · clear h
    go_enter Try.func6, Try.ntmps6
    go_wp2
    go_ret
    exact ⟨rfl, Below.refl _ _⟩
  have h7 : a0 < a1 := by omega
  clear h
  go_enter Try.func6, Try.ntmps6
  go_wp2
  go_ret
  exact ⟨rfl, Below.refl _ _⟩

set_option maxHeartbeats 2000000 in
set_option maxRecDepth 100000 in
theorem main (a0 a1 a2 a3 : Int) (a4 : Option Addr) (n c : Nat) (Z : Nat → Int) (w : World) (hn : n ≤ 65536) (h0 : 0 ≤ a0) (h1 : 0 ≤ a1) (h2 : 0 ≤ a2) (h3 : 0 ≤ a3) (h10 : a1 ≤ a0) (b0 : a0 ≤ 9223372036854775807)
    (hZ : IntsAt w a4 n Z) (hB : ∀ j, j < n → Z j ≤ 9223372036854775807) (hnil : a4 = none → n = 0) :
    Calls Try.prog 6 #[.int .i64 a0, .int .i64 a1, .int .i64 a2, .int .i64 a3, .slice a4 n c] w fun e w' => e = .returned (.bool true) ∧ Below w.heap.size w w' := by
  have he := fun (w : World) => run_neq_slice_nil_any (P := Try.prog) w
  have HB := hide hB
  clear hB
  have HZ := hide hZ
  clear hZ
  have HNIL := hide hnil
  clear hnil
  go_enter Try.func6, Try.ntmps6
  go_wp2
  go_loopw [11] (fun j wr => ∃ k : Nat, k ≤ n ∧ j = .int .i64 k ∧ Hid ((0 < k → a0 ≤ Z 0 ∧ a2 ≤ Z 0 ∧ a3 ≤ Z 0) ∧ ∀ j, j + 1 < k → Z j ≤ Z (j + 1)) ∧ Drawn w wr) (fun j _ => n - (intOf j).toNat)
  case atStart => exact ⟨0, Nat.zero_le _, rfl, ⟨fun h => absurd h (by omega), fun j h => absurd h (by omega)⟩, Drawn.refl _⟩
  case round =>
    obtain ⟨k, hk, rfl, HS, hD⟩ := hrel
    by_cases hlt : k < n
    · rcases unhide HZ with h | ⟨b, off, rfl, hc⟩
      · omega
      cases k with
      | zero =>
        have c0 := hD.cell (hc 0 hlt)
        rw [Nat.add_zero] at c0
        obtain ⟨X, hX⟩ : ∃ X, X = Z 0 := ⟨_, rfl⟩
        rw [← hX] at c0
        have HX := hide hX
        clear hX hc
        by_cases q1 : X < a0
        · go_wp2
          go_ret
          exact ⟨rfl, hD.below⟩
        by_cases q2 : X < a2
        · go_wp2
          go_ret
          exact ⟨rfl, hD.below⟩
        by_cases q3 : X < a3
        · go_wp2
          go_ret
          exact ⟨rfl, hD.below⟩
        go_wp2
        go_roundw
        case rel => exact ⟨1, by omega, by go_num, ⟨fun _ => by rw [← unhide HX]; omega, fun j h => absurd h (by omega)⟩, hD⟩
        case measure => simp [intOf]; omega
      | succ i =>
        have c0 := hD.cell (hc (i + 1) hlt)
        have c1 := hD.cell (hc i (by omega))
        obtain ⟨X, hX⟩ : ∃ X, X = Z (i + 1) := ⟨_, rfl⟩
        obtain ⟨Y, hY⟩ : ∃ Y, Y = Z i := ⟨_, rfl⟩
        rw [← hX] at c0
        rw [← hY] at c1
        have HX := hide hX
        have HY := hide hY
        clear hX hY hc
        have hwk : IntKind.i64.wrap (i : Int) = (i : Int) := by rw [IntKind.wrap_i64]; omega
        have h1' : (i : Int) + 1 < (n : Int) := by omega
        have hp0 : (0 : Int) ≤ (i : Int) + 1 := by omega
        have hp2 : ((i : Int) + 1).toNat = i + 1 := by omega
        have h2' : (i : Int) < (n : Int) := by omega
        have hp3 : ((i : Int) + 1 == 0) = false := by simp; omega
        by_cases q1 : X < Y
        · go_wp2
          go_quiet (fail)
          go_wp2
          go_ret
          exact ⟨rfl, (hD.more _).below⟩
        · have q1' : decide (X < Y) = false := by simp; omega
          go_wp2
          go_quiet (fail)
          go_wp2
          go_roundw
          case rel =>
            refine ⟨i + 1 + 1, by omega, by go_num, ⟨fun _ => (unhide HS).1 (by omega), fun j h => ?_⟩, hD.more _⟩
            by_cases e : j = i
            · subst e; rw [← unhide HX, ← unhide HY]; omega
            · exact (unhide HS).2 j (by omega)
          case measure => simp [intOf]; omega
    · have hkn : k = n := by omega
      subst hkn
      have HO := hide (show Ordered a0 a2 a3 k Z from unhide HS)
      clear HS
      cases a4 with
      | none =>
        have hk0 : k = 0 := unhide HNIL rfl
        subst hk0
        go_wp2
        go_loop [19] (fun j => j = .int .i64 0) (fun _ => 0)
        case atStart => rfl
        case round =>
          subst hrel
          go_wp2
          go_ret
          exact ⟨rfl, hD.below⟩
      | some ad =>
        go_wp2_with (refine wpList_make_is _ rfl _ _ 31 rfl 2 (.int .i64 0) 1 8 Try.underlying31 Try.info2 .i64 .i64 k rfl rfl (by omega) (by omega) ?_)
        intro w1 hrow hb1 hsz1
        have hO := OwnInts.start Z hrow
        clear hrow
        have hB1 := hD.below.trans (hb1.mono hD.below.size)
        have hw1 : wr.heap.size < w1.heap.size := by omega
        go_wp2
        go_loopw [13] (fun j wl => ∃ l : Nat, l ≤ k ∧ j = .int .i64 l ∧ OwnInts wl wr.heap.size 2 k l Z ∧ Below wr.heap.size wr wl) (fun j _ => k - (intOf j).toNat)
        case atStart => exact ⟨0, Nat.zero_le _, rfl, hO, hb1⟩
        case round =>
          obtain ⟨l, hl, rfl, hOl, hbl⟩ := hrel
          clear hO hb1 hsz1 hB1 hw1
          by_cases hlt2 : l < k
          · rcases unhide HZ with h | ⟨b, off, hb, hc⟩
            · omega
            simp only [Option.some.injEq] at hb
            subst hb
            have c0 := cell_below hbl (hD.cell (hc l hlt2))
            obtain ⟨⟨v1, c1⟩, f1⟩ := hOl.room l hlt2
            have hs := hOl.step
            clear hc
            go_wp2
            go_roundw
            case rel => exact ⟨l + 1, by omega, by go_num, hs, hbl.setCell (Nat.le_refl _) _⟩
            case measure => simp [intOf]; omega
          · have hlk : l = k := by omega
            subst hlk
            obtain ⟨l0, hl0⟩ : ∃ l0, l0 = l := ⟨_, rfl⟩
            rw [← hl0] at hOl HO HB hn ⊢
            have HI := hide hOl.ints
            have hB2 := hD.below.trans (hbl.mono hD.below.size)
            clear hOl hbl hl0
            obtain ⟨w2, hw2⟩ : ∃ w2, w2 = wr := ⟨_, rfl⟩
            rw [← hw2] at HI hB2 ⊢
            clear hw2
            go_wp2
            go_loopw [14, 15, 16, 17, 18, 19] (fun vlc vpc vlr vlg vs j wl => ∃ (l : Nat) (lc lr lg : Int) (seen : Bool), l ≤ l0 ∧ j = .int .i64 l ∧ vlc = .int .i64 lc ∧ vpc = .int .i64 a1 ∧ vlr = .int .i64 lr ∧ vlg = .int .i64 lg ∧ vs = .bool seen ∧ Hid (lc = a0 ∨ lc = a1) ∧ Hid (l < l0 → Fits a0 a1 lc lg seen (Z l)) ∧ Below w2.heap.size w2 wl) (fun _ _ _ _ _ j _ => l0 - (intOf j).toNat)
            case atStart => exact ⟨0, a0, a2, a3, false, Nat.zero_le _, rfl, rfl, rfl, rfl, rfl, rfl, .inl rfl, fun h => ⟨((unhide HO).1 h).2.2, fun h => by cases h⟩, Below.refl _ _⟩
            case round =>
              obtain ⟨l, lc, lr, lg, seen, hl, rfl, rfl, rfl, rfl, rfl, rfl, HLC, HF, hbl⟩ := hrel
              by_cases hlt3 : l < l0
              · rcases unhide HI with h | ⟨b, off, hb, hc⟩
                · omega
                simp only [Option.some.injEq, Addr.mk.injEq] at hb
                obtain ⟨rfl, rfl, _⟩ := hb
                have c0 := cell_below hbl (hc l hlt3)
                rw [Nat.zero_add] at c0
                have hX0 : a0 ≤ Z l := ordered_ge (unhide HO) l hlt3
                have hX1 := unhide HB l hlt3
                have HNEXT := hide ((unhide HO).2 l)
                obtain ⟨s1, s2, s3, s4, s5⟩ := step_facts (unhide HLC) h10 (unhide HF hlt3)
                obtain ⟨X, hX⟩ : ∃ X, X = Z l := ⟨_, rfl⟩
                rw [← hX] at c0 hX0 hX1 HNEXT s1 s2 s3 s4 s5
                have hlc0 : 0 ≤ lc ∧ lc ≤ 9223372036854775807 := by rcases unhide HLC with h | h <;> omega
                have H1 := hide (reject_any lc a1 lr lg X wr hlc0.1 hlc0.2 h1 (by omega) (by omega) hX1)
                obtain ⟨C2, hC2⟩ : ∃ C2, C2 = rejC lc a1 X := ⟨_, rfl⟩
                obtain ⟨G2, hG2⟩ : ∃ G2, G2 = rejG lc a1 lg X := ⟨_, rfl⟩
                rw [← hC2] at s1 s2 s5 H1
                rw [← hG2] at s3 s4 s5 H1
                have HC2 := hide s1
                have HT := hide s5
                clear hX hC2 hG2 hc s5 hlc0 HF
                by_cases hca : C2 = a0
                · have hcb : (C2 != a0) = false := by simp [hca]
                  clear hca s1
                  by_cases hg : G2 = lg
                  · have hgb : (G2 != lg) = false := by simp [hg]
                    clear hg
                    cases seen with
                    | true =>
                      obtain ⟨t1, t2⟩ := unhide HT (.inr rfl)
                      have hgx : (G2 != X) = false := by simp [t1]
                      have HNX := hide (show l + 1 < l0 → Fits a0 a1 C2 G2 true (Z (l + 1)) from fun h => by
                        have := unhide HNEXT h
                        exact ⟨by omega, fun _ => by omega⟩)
                      clear t1 t2
                      go_wp2_with (go_at_call 10; refine (unhide H1).mono ?_; rintro e w4 ⟨rfl, hb4⟩)
                      go_roundw
                      case rel => exact ⟨l + 1, C2, X, G2, true, by omega, by go_num, rfl, rfl, rfl, rfl, rfl, unhide HC2, HNX, hbl.trans (hb4.mono hbl.size)⟩
                      case measure => simp [intOf]; omega
                    | false =>
                      have HNX := hide (show l + 1 < l0 → Fits a0 a1 C2 G2 false (Z (l + 1)) from fun h => by
                        have := unhide HNEXT h
                        exact ⟨by omega, fun h => by cases h⟩)
                      go_wp2_with (go_at_call 10; refine (unhide H1).mono ?_; rintro e w4 ⟨rfl, hb4⟩)
                      go_roundw
                      case rel => exact ⟨l + 1, C2, X, G2, false, by omega, by go_num, rfl, rfl, rfl, rfl, rfl, unhide HC2, HNX, hbl.trans (hb4.mono hbl.size)⟩
                      case measure => simp [intOf]; omega
                  · have hgb : (G2 != lg) = true := by simp [hg]
                    obtain ⟨t1, t2⟩ := unhide HT (.inl hg)
                    have hgx : (G2 != X) = false := by simp [t1]
                    have HNX := hide (show l + 1 < l0 → Fits a0 a1 C2 G2 true (Z (l + 1)) from fun h => by
                      have := unhide HNEXT h
                      exact ⟨by omega, fun _ => by omega⟩)
                    clear t1 t2 hg
                    go_wp2_with (go_at_call 10; refine (unhide H1).mono ?_; rintro e w4 ⟨rfl, hb4⟩)
                    go_roundw
                    case rel => exact ⟨l + 1, C2, X, G2, true, by omega, by go_num, rfl, rfl, rfl, rfl, rfl, unhide HC2, HNX, hbl.trans (hb4.mono hbl.size)⟩
                    case measure => simp [intOf]; omega
                · have hcb : (C2 != a0) = true := by simp [hca]
                  have hcc : (C2 != a1) = false := by
                    have : C2 = a1 := by rcases s1 with h | h; exact absurd h hca; exact h
                    simp [this]
                  clear hca s1
                  by_cases hg : G2 = lg
                  · have hgb : (G2 != lg) = false := by simp [hg]
                    clear hg
                    cases seen with
                    | true =>
                      obtain ⟨t1, t2⟩ := unhide HT (.inr rfl)
                      have hgx : (G2 != X) = false := by simp [t1]
                      have HNX := hide (show l + 1 < l0 → Fits a0 a1 C2 G2 true (Z (l + 1)) from fun h => by
                        have := unhide HNEXT h
                        exact ⟨by omega, fun _ => by omega⟩)
                      clear t1 t2
                      go_wp2_with (go_at_call 10; refine (unhide H1).mono ?_; rintro e w4 ⟨rfl, hb4⟩)
                      go_roundw
                      case rel => exact ⟨l + 1, C2, X, G2, true, by omega, by go_num, rfl, rfl, rfl, rfl, rfl, unhide HC2, HNX, hbl.trans (hb4.mono hbl.size)⟩
                      case measure => simp [intOf]; omega
                    | false =>
                      have HNX := hide (show l + 1 < l0 → Fits a0 a1 C2 G2 false (Z (l + 1)) from fun h => by
                        have := unhide HNEXT h
                        exact ⟨by omega, fun h => by cases h⟩)
                      go_wp2_with (go_at_call 10; refine (unhide H1).mono ?_; rintro e w4 ⟨rfl, hb4⟩)
                      go_roundw
                      case rel => exact ⟨l + 1, C2, X, G2, false, by omega, by go_num, rfl, rfl, rfl, rfl, rfl, unhide HC2, HNX, hbl.trans (hb4.mono hbl.size)⟩
                      case measure => simp [intOf]; omega
                  · have hgb : (G2 != lg) = true := by simp [hg]
                    obtain ⟨t1, t2⟩ := unhide HT (.inl hg)
                    have hgx : (G2 != X) = false := by simp [t1]
                    have HNX := hide (show l + 1 < l0 → Fits a0 a1 C2 G2 true (Z (l + 1)) from fun h => by
                      have := unhide HNEXT h
                      exact ⟨by omega, fun _ => by omega⟩)
                    clear t1 t2 hg
                    go_wp2_with (go_at_call 10; refine (unhide H1).mono ?_; rintro e w4 ⟨rfl, hb4⟩)
                    go_roundw
                    case rel => exact ⟨l + 1, C2, X, G2, true, by omega, by go_num, rfl, rfl, rfl, rfl, rfl, unhide HC2, HNX, hbl.trans (hb4.mono hbl.size)⟩
                    case measure => simp [intOf]; omega
              · go_wp2
                go_ret
                exact ⟨rfl, hB2.trans (hbl.mono hB2.size)⟩
end fnThrottleStreakRejectScript
end Go.Proofs.Qxb6602742a
