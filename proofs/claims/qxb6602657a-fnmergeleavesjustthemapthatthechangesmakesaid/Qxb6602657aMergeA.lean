/-
  Contracts on the road of the law over merge: zzCmpB1, bytes.Compare, zzBytes.., zzMergeSmallB1, zzCloneBytesB1, zzMergeAscendingB1.
-/
import Derived.Test.Qxb6602657aProg
import Derived.Test.Qxb6602657aBytes
import Derived.Lib.BytesEntry
import Derived.Deep.QuietTactic
import Derived.BigQuiet
import Derived.BigRegion
import Derived.RegionTactic
namespace Go.Proofs.Qxb6602657a
open Go.RowKit
set_option linter.unusedVariables false

/-! ### zzCmpB1 (17) -/
theorem cmp_step {la lb : List UInt8} {k : Nat} {x y : UInt8} (hx : la[k]? = some x) (hy : lb[k]? = some y) :
    Lib.compareBytes (la.drop k) (lb.drop k) = if (x.toNat : Int) < (y.toNat : Int) then -1 else if (y.toNat : Int) < (x.toNat : Int) then 1 else Lib.compareBytes (la.drop (k + 1)) (lb.drop (k + 1)) := by
  obtain ⟨h1, rfl⟩ := List.getElem?_eq_some_iff.1 hx
  obtain ⟨h2, rfl⟩ := List.getElem?_eq_some_iff.1 hy
  rw [List.drop_eq_getElem_cons h1, List.drop_eq_getElem_cons h2, Lib.compareBytes]
  simp only [UInt8.lt_iff_toNat_lt, Int.ofNat_lt]
theorem cmp_end_left {la lb : List UInt8} {k : Nat} (h : la.length ≤ k) : Lib.compareBytes (la.drop k) (lb.drop k) = if k < lb.length then -1 else 0 := by
  rw [List.drop_eq_nil_of_le h]
  by_cases hk : k < lb.length
  · rw [List.drop_eq_getElem_cons hk, if_pos hk]; rfl
  · rw [List.drop_eq_nil_of_le (by omega), if_neg hk]; rfl
theorem cmp_end_right {la lb : List UInt8} {k : Nat} (h : lb.length ≤ k) : Lib.compareBytes (la.drop k) (lb.drop k) = if k < la.length then 1 else 0 := by
  rw [List.drop_eq_nil_of_le h]
  by_cases hk : k < la.length
  · rw [List.drop_eq_getElem_cons hk, if_pos hk]; rfl
  · rw [List.drop_eq_nil_of_le (by omega), if_neg hk]; rfl

set_option maxHeartbeats 1000000 in
theorem cmp_any (va vb : Value) (la lb : List UInt8) (w : World) (ha : BytesAt w va la) (hb : BytesAt w vb lb) :
    Calls Try.prog 17 #[va, vb] w fun e w' => e = .returned (.int .i64 (Lib.compareBytes la lb)) ∧ ∃ q, w' = w.drewN q := by
  obtain ⟨a, ca, rfl, hma, ha⟩ := ha
  obtain ⟨b, cb, rfl, hmb, hb⟩ := hb
  obtain ⟨R, hR⟩ : ∃ R, R = Lib.compareBytes la lb := ⟨_, rfl⟩
  rw [← hR]
  have h0 : Lib.compareBytes (la.drop 0) (lb.drop 0) = R := by simp [hR]
  have H0 := hide h0
  have HR := hide hR
  clear h0 hR
  obtain ⟨n, hn⟩ : ∃ n, n = la.length := ⟨_, rfl⟩
  obtain ⟨m, hm⟩ : ∃ m, m = lb.length := ⟨_, rfl⟩
  rw [← hn] at hma ⊢
  rw [← hm] at hmb ⊢
  have Hn := hide hn
  have Hm := hide hm
  clear hn hm
  by_cases hlt : m < n
  · skip
    go_enter Try.func17, Try.ntmps17
    go_wp2
    go_loopw [6] (fun j wr => ∃ k : Nat, k ≤ n ∧ k ≤ m ∧ j = .int .i64 k ∧ Hid (Lib.compareBytes (la.drop k) (lb.drop k) = R) ∧ ∃ q, wr = w.drewN q) (fun j _ => n - (intOf j).toNat)
    case atStart => exact ⟨0, Nat.zero_le _, Nat.zero_le _, rfl, H0, 0, rfl⟩
    case round =>
      obtain ⟨k, hkn, hkm, rfl, HC, q, rfl⟩ := hrel
      by_cases hk : k < n ∧ k < m
      · obtain ⟨hk1, hk2⟩ := hk
        obtain ⟨x, hx⟩ := get_some la k (by rw [← unhide Hn]; exact hk1)
        obtain ⟨y, hy⟩ := get_some lb k (by rw [← unhide Hm]; exact hk2)
        have hstep := cmp_step hx hy
        rcases ha with h | ⟨ba, oa, rfl, hca⟩
        · exact absurd (unhide Hn) (by rw [h]; simp; omega)
        rcases hb with h | ⟨bb, ob, rfl, hcb⟩
        · exact absurd (unhide Hm) (by rw [h]; simp; omega)
        have g1 := hca k x hx
        have g2 := hcb k y hy
        obtain ⟨X, hX⟩ : ∃ X : Int, X = (x.toNat : Int) := ⟨_, rfl⟩
        obtain ⟨Y, hY⟩ : ∃ Y : Int, Y = (y.toNat : Int) := ⟨_, rfl⟩
        rw [← hX] at g1 hstep
        rw [← hY] at g2 hstep
        rw [unhide HC] at hstep
        have HS := hide hstep
        clear hstep hX hY hx hy hca hcb HC
        have hk1' : (k : Int) < (n : Int) := by omega
        have hk2' : (k : Int) < (m : Int) := by omega
        by_cases hxy : X = Y
        · subst hxy
          have hs := unhide HS
          rw [if_neg (by omega), if_neg (by omega)] at hs
          have HC := hide hs.symm
          clear hs HS
          go_wp2
          go_quiet (fail)
          go_wp2
          go_roundw
          case rel => exact ⟨k + 1, by omega, by omega, by go_num, HC, _, rfl⟩
          case measure => simp [intOf]; omega
        · have hne : (X != Y) = true := by simp [hxy]
          by_cases hl : X < Y
          · have hs := unhide HS
            rw [if_pos hl] at hs
            have HF := hide hs
            clear hs HS
            go_wp2
            go_quiet (fail)
            go_wp2
            go_quiet (fail)
            go_wp2
            go_ret
            exact ⟨by rw [unhide HF]; rfl, _, by rw [World.drewN_drewN, World.drewN_drewN]⟩
          · have hs := unhide HS
            rw [if_neg hl, if_pos (by omega)] at hs
            have HF := hide hs
            have hld : decide (X < Y) = false := by simp; omega
            clear hs HS
            go_wp2
            go_quiet (fail)
            go_wp2
            go_quiet (fail)
            go_wp2
            go_ret
            exact ⟨by rw [unhide HF]; rfl, _, by rw [World.drewN_drewN, World.drewN_drewN]⟩
      · have hkm2 : m ≤ k := by omega
        have hs := cmp_end_right (la := la) (lb := lb) (k := k) (by rw [← unhide Hm]; exact hkm2)
        rw [← unhide Hn, if_pos (by omega), unhide HC] at hs
        have HF := hide hs
        clear hs hk
        go_wp2
        go_ret
        exact ⟨by rw [unhide HF]; rfl, _, rfl⟩
  · skip
    go_enter Try.func17, Try.ntmps17
    go_wp2
    go_loopw [6] (fun j wr => ∃ k : Nat, k ≤ n ∧ k ≤ m ∧ j = .int .i64 k ∧ Hid (Lib.compareBytes (la.drop k) (lb.drop k) = R) ∧ ∃ q, wr = w.drewN q) (fun j _ => n - (intOf j).toNat)
    case atStart => exact ⟨0, Nat.zero_le _, Nat.zero_le _, rfl, H0, 0, rfl⟩
    case round =>
      obtain ⟨k, hkn, hkm, rfl, HC, q, rfl⟩ := hrel
      by_cases hk : k < n ∧ k < m
      · obtain ⟨hk1, hk2⟩ := hk
        obtain ⟨x, hx⟩ := get_some la k (by rw [← unhide Hn]; exact hk1)
        obtain ⟨y, hy⟩ := get_some lb k (by rw [← unhide Hm]; exact hk2)
        have hstep := cmp_step hx hy
        rcases ha with h | ⟨ba, oa, rfl, hca⟩
        · exact absurd (unhide Hn) (by rw [h]; simp; omega)
        rcases hb with h | ⟨bb, ob, rfl, hcb⟩
        · exact absurd (unhide Hm) (by rw [h]; simp; omega)
        have g1 := hca k x hx
        have g2 := hcb k y hy
        obtain ⟨X, hX⟩ : ∃ X : Int, X = (x.toNat : Int) := ⟨_, rfl⟩
        obtain ⟨Y, hY⟩ : ∃ Y : Int, Y = (y.toNat : Int) := ⟨_, rfl⟩
        rw [← hX] at g1 hstep
        rw [← hY] at g2 hstep
        rw [unhide HC] at hstep
        have HS := hide hstep
        clear hstep hX hY hx hy hca hcb HC
        have hk1' : (k : Int) < (n : Int) := by omega
        have hk2' : (k : Int) < (m : Int) := by omega
        by_cases hxy : X = Y
        · subst hxy
          have hs := unhide HS
          rw [if_neg (by omega), if_neg (by omega)] at hs
          have HC := hide hs.symm
          clear hs HS
          go_wp2
          go_quiet (fail)
          go_wp2
          go_roundw
          case rel => exact ⟨k + 1, by omega, by omega, by go_num, HC, _, rfl⟩
          case measure => simp [intOf]; omega
        · have hne : (X != Y) = true := by simp [hxy]
          by_cases hl : X < Y
          · have hs := unhide HS
            rw [if_pos hl] at hs
            have HF := hide hs
            clear hs HS
            go_wp2
            go_quiet (fail)
            go_wp2
            go_quiet (fail)
            go_wp2
            go_ret
            exact ⟨by rw [unhide HF]; rfl, _, by rw [World.drewN_drewN, World.drewN_drewN]⟩
          · have hs := unhide HS
            rw [if_neg hl, if_pos (by omega)] at hs
            have HF := hide hs
            have hld : decide (X < Y) = false := by simp; omega
            clear hs HS
            go_wp2
            go_quiet (fail)
            go_wp2
            go_quiet (fail)
            go_wp2
            go_ret
            exact ⟨by rw [unhide HF]; rfl, _, by rw [World.drewN_drewN, World.drewN_drewN]⟩
      · have hkn2 : n ≤ k := by omega
        have hs := cmp_end_left (la := la) (lb := lb) (k := k) (by rw [← unhide Hn]; exact hkn2)
        rw [← unhide Hm, unhide HC] at hs
        by_cases hnm : n < m
        · rw [if_pos (by omega)] at hs
          have HF := hide hs
          clear hs hk
          go_wp2
          go_ret
          exact ⟨by rw [unhide HF]; rfl, _, rfl⟩
        · rw [if_neg (by omega)] at hs
          have HF := hide hs
          clear hs hk
          go_wp2
          go_ret
          exact ⟨by rw [unhide HF]; rfl, _, rfl⟩

/-! ### bytes.Compare (35) -/
theorem run_bytesOf {P : Program} {w : World} {v : Value} {l : List UInt8} (h : BytesAt w v l) : (Extern.Bytes.bytesOf v).run P w = .ok ⟨l.toArray⟩ w := by
  obtain ⟨a, c, rfl, _, h⟩ := h
  rcases h with rfl | ⟨b, off, rfl, hc⟩
  · cases a with
    | none => rfl
    | some a => rfl
  · have := Lib.run_loadBytesX (P := P) w (l.map fun x => (x.toNat : Int)) ⟨b, off, none⟩ ByteArray.empty (fun j x hx => by
      rw [Addr.add_lit]
      rw [List.getElem?_map, Option.map_eq_some_iff] at hx
      obtain ⟨y, hy, rfl⟩ := hx
      exact hc j y hy)
    have e : Lib.bytesOf (l.map fun x => (x.toNat : Int)) = l := by simp [Lib.bytesOf, Function.comp_def]
    rw [e, List.length_map] at this
    have e2 : (⟨ByteArray.empty.data ++ l.toArray⟩ : ByteArray) = ⟨l.toArray⟩ := by
      apply ByteArray.ext
      show (#[] : Array UInt8) ++ l.toArray = l.toArray
      simp
    rw [e2] at this
    exact this
theorem run_compare {P : Program} {w : World} {va vb : Value} {la lb : List UInt8} (ha : BytesAt w va la) (hb : BytesAt w vb lb) :
    (Extern.BytealgCompare.compare #[va, vb]).run P w = .ok (.int .i64 (Lib.compareBytes la lb)) w := by
  change Sem.run P (do pure (goInt (Extern.BytealgCompare.cmp (← Extern.Bytes.bytesOf va) (← Extern.Bytes.bytesOf vb)))) w = _
  simp only [Sem.run_bind, run_bytesOf ha, run_bytesOf hb, Sem.run_pure, Result.andThen]
  rw [Lib.cmp_eq]
  rfl

set_option maxHeartbeats 1000000 in
set_option maxRecDepth 100000 in
theorem compare_any (va vb : Value) (la lb : List UInt8) (w : World) (ha : BytesAt w va la) (hb : BytesAt w vb lb) :
    Calls Try.prog 35 #[va, vb] w fun e w' => e = .returned (.int .i64 (Lib.compareBytes la lb)) ∧ w' = w := by
  have hrun := run_compare (P := Try.prog) ha hb
  obtain ⟨a, ca, rfl, hma, ha⟩ := ha
  obtain ⟨b, cb, rfl, hmb, hb⟩ := hb
  have HR := hide hrun
  clear hrun ha hb
  go_enter Try.func35, Try.ntmps35
  go_wp2
  rw [run_callFunc_extern Try.func38 (by kernel_rfl) (by kernel_rfl) (by kernel_rfl) (e := Extern.BytealgCompare.compare) (by kernel_rfl), unhide HR]
  simp only [Result.andThen]
  rw [Oper.upon_value]
  go_wp2
  go_ret
  exact ⟨rfl, rfl⟩

/-! ### zzBytes_.. (9) -/
/-- it returns some bool -/
def RetBool (e : Ending) : Prop := ∃ r : Bool, e = .returned (.bool r)

set_option maxHeartbeats 1000000 in
theorem bytes9_any (ve vc : Value) (E : List (List UInt8 × List UInt8)) (C : List (List UInt8 × List UInt8 × Bool)) (w : World) (he : EntsAt w ve E) (hc : ChgsAt w vc C) :
    Calls Try.prog 9 #[ve, vc] w fun e w' => RetBool e ∧ w' = w := by
  obtain ⟨a, ca, rfl, hla, hma, ha⟩ := he
  obtain ⟨b, cb, rfl, hlb, hmb, hb⟩ := hc
  obtain ⟨n, hn⟩ : ∃ n, n = E.length := ⟨_, rfl⟩
  obtain ⟨m, hm⟩ : ∃ m, m = C.length := ⟨_, rfl⟩
  rw [← hn] at hla ⊢
  rw [← hm] at hlb ⊢
  have Hn := hide hn
  have Hm := hide hm
  clear hn hm
  by_cases hn1 : 1048576 < n
  · go_enter Try.func9, Try.ntmps9
    go_wp2
    go_ret
    exact ⟨⟨_, rfl⟩, rfl⟩
  go_enter Try.func9, Try.ntmps9
  go_wp2
  go_loop [5, 6] (fun z j => ∃ (k : Nat) (x : Int), k ≤ n ∧ j = .int .i64 k ∧ z = .int .i64 x ∧ 0 ≤ x ∧ x ≤ 1048576) (fun _ j => n - (intOf j).toNat)
  case atStart => exact ⟨0, n, Nat.zero_le _, rfl, by first | rfl | (simp; omega), by omega, by omega⟩
  case round =>
    obtain ⟨k, x, hk, rfl, rfl, hx0, hx1⟩ := hrel
    by_cases hlt : k < n
    · obtain ⟨e, hek⟩ := get_some E k (by rw [← unhide Hn]; exact hlt)
      rcases ha with h | ⟨b1, o1, rfl, hca⟩
      · exact absurd (unhide Hn) (by rw [h]; simp; omega)
      obtain ⟨v1, v2, g1, g2, ⟨a1, c1, rfl, hm1, _⟩, ⟨a2, c2, rfl, hm2, _⟩⟩ := hca k e hek
      clear hca
      go_wp2
      all_goals first
        | (go_ret; exact ⟨⟨_, rfl⟩, rfl⟩)
        | skip
      go_round
      case rel => exact ⟨k + 1, _, by omega, by go_num, rfl, by omega, by assumption⟩
      case measure => simp [intOf]; omega
    · go_wp2
      all_goals first
        | (go_ret; exact ⟨⟨_, rfl⟩, rfl⟩)
        | skip
      go_loop [5, 7] (fun z j => ∃ (k : Nat) (x : Int), k ≤ m ∧ j = .int .i64 k ∧ z = .int .i64 x ∧ 0 ≤ x ∧ x ≤ 1048576) (fun _ j => m - (intOf j).toNat)
      case atStart => exact ⟨0, _, Nat.zero_le _, rfl, rfl, by omega, by omega⟩
      case round =>
        obtain ⟨l, y, hl, rfl, rfl, hy0, hy1⟩ := hrel
        by_cases hlt2 : l < m
        · obtain ⟨e, hek⟩ := get_some C l (by rw [← unhide Hm]; exact hlt2)
          rcases hb with h | ⟨b1, o1, rfl, hcb⟩
          · exact absurd (unhide Hm) (by rw [h]; simp; omega)
          obtain ⟨v1, v2, g1, g2, g3, ⟨a1, c1, rfl, hm1, _⟩, ⟨a2, c2, rfl, hm2, _⟩⟩ := hcb l e hek
          clear hcb
          go_wp2
          all_goals first
            | (go_ret; exact ⟨⟨_, rfl⟩, rfl⟩)
            | skip
          go_round
          case rel => exact ⟨l + 1, _, by omega, by go_num, rfl, by omega, by assumption⟩
          case measure => simp [intOf]; omega
        · go_wp2
          go_ret
          exact ⟨⟨_, rfl⟩, rfl⟩

/-! ### zzMergeSmallB1 (10) -/
def SmallE (E : List (List UInt8 × List UInt8)) : Prop := ∀ (j : Nat) (e : List UInt8 × List UInt8), E[j]? = some e → e.1.length ≤ 1048576 ∧ e.2.length ≤ 1048576
def SmallC (C : List (List UInt8 × List UInt8 × Bool)) : Prop := ∀ (j : Nat) (e : List UInt8 × List UInt8 × Bool), C[j]? = some e → e.1.length ≤ 1048576 ∧ e.2.1.length ≤ 1048576
def SmallEC (E : List (List UInt8 × List UInt8)) (C : List (List UInt8 × List UInt8 × Bool)) : Prop := E.length ≤ 65536 ∧ C.length ≤ 65536 ∧ SmallE E ∧ SmallC C
def RetSmall (E : List (List UInt8 × List UInt8)) (C : List (List UInt8 × List UInt8 × Bool)) (e : Ending) : Prop := ∃ r : Bool, e = .returned (.bool r) ∧ (r = true → SmallEC E C)

set_option maxHeartbeats 1000000 in
theorem small_any (ve vc : Value) (E : List (List UInt8 × List UInt8)) (C : List (List UInt8 × List UInt8 × Bool)) (w : World) (he : EntsAt w ve E) (hc : ChgsAt w vc C) :
    Calls Try.prog 10 #[ve, vc] w fun e w' => RetSmall E C e ∧ w' = w := by
  obtain ⟨a, ca, rfl, hla, hma, ha⟩ := he
  obtain ⟨b, cb, rfl, hlb, hmb, hb⟩ := hc
  obtain ⟨n, hn⟩ : ∃ n, n = E.length := ⟨_, rfl⟩
  obtain ⟨m, hm⟩ : ∃ m, m = C.length := ⟨_, rfl⟩
  rw [← hn] at hla ⊢
  rw [← hm] at hlb ⊢
  have Hn := hide hn
  have Hm := hide hm
  clear hn hm
  by_cases hn1 : 65536 < n
  · go_enter Try.func10, Try.ntmps10
    go_wp2
    go_ret
    exact ⟨⟨false, rfl, fun h => by cases h⟩, rfl⟩
  by_cases hm1 : 65536 < m
  · go_enter Try.func10, Try.ntmps10
    go_wp2
    go_ret
    exact ⟨⟨false, rfl, fun h => by cases h⟩, rfl⟩
  by_cases hs1 : 1048576 < 48 * n + 56 * m
  · go_enter Try.func10, Try.ntmps10
    go_wp2
    go_ret
    exact ⟨⟨false, rfl, fun h => by cases h⟩, rfl⟩
  go_enter Try.func10, Try.ntmps10
  go_wp2
  go_loop [5, 6] (fun z j => ∃ (k : Nat) (x : Int), k ≤ n ∧ j = .int .i64 k ∧ z = .int .i64 x ∧ 0 ≤ x ∧ x ≤ 1048576 ∧ Hid (∀ j e, j < k → E[j]? = some e → e.1.length ≤ 1048576 ∧ e.2.length ≤ 1048576)) (fun _ j => n - (intOf j).toNat)
  case atStart => exact ⟨0, _, Nat.zero_le _, rfl, rfl, by omega, by omega, fun j e h => absurd h (by omega)⟩
  case round =>
    obtain ⟨k, x, hk, rfl, rfl, hx0, hx1, HS⟩ := hrel
    by_cases hlt : k < n
    · obtain ⟨e, hek⟩ := get_some E k (by rw [← unhide Hn]; exact hlt)
      rcases ha with h | ⟨b1, o1, rfl, hca⟩
      · exact absurd (unhide Hn) (by rw [h]; simp; omega)
      obtain ⟨v1, v2, g1, g2, ⟨a1, c1, rfl, hm1, _⟩, ⟨a2, c2, rfl, hm2, _⟩⟩ := hca k e hek
      have HE := hide hek
      clear hca hek
      go_wp2
      all_goals first
        | (go_ret; exact ⟨⟨false, rfl, fun h => by cases h⟩, rfl⟩)
        | skip
      go_round
      case rel =>
        refine ⟨k + 1, _, by omega, by go_num, rfl, by omega, by omega, fun j e' hj he' => ?_⟩
        by_cases ej : j = k
        · subst ej
          rw [unhide HE] at he'
          have he2 : e = e' := by simpa using he'
          subst he2
          omega
        · exact unhide HS j e' (by omega) he'
      case measure => simp [intOf]; omega
    · have hse : SmallE E := fun j e he => unhide HS j e (by have := (List.getElem?_eq_some_iff.1 he).1; have := unhide Hn; omega) he
      have HSE := hide hse
      clear hse HS
      go_wp2
      go_loop [5, 7] (fun z j => ∃ (k : Nat) (x : Int), k ≤ m ∧ j = .int .i64 k ∧ z = .int .i64 x ∧ 0 ≤ x ∧ x ≤ 1048576 ∧ Hid (∀ j e, j < k → C[j]? = some e → e.1.length ≤ 1048576 ∧ e.2.1.length ≤ 1048576)) (fun _ j => m - (intOf j).toNat)
      case atStart => exact ⟨0, _, Nat.zero_le _, rfl, rfl, by omega, by omega, fun j e h => absurd h (by omega)⟩
      case round =>
        obtain ⟨l, y, hl, rfl, rfl, hy0, hy1, HS⟩ := hrel
        by_cases hlt2 : l < m
        · obtain ⟨e, hek⟩ := get_some C l (by rw [← unhide Hm]; exact hlt2)
          rcases hb with h | ⟨b1, o1, rfl, hcb⟩
          · exact absurd (unhide Hm) (by rw [h]; simp; omega)
          obtain ⟨v1, v2, g1, g2, g3, ⟨a1, c1, rfl, hm1, _⟩, ⟨a2, c2, rfl, hm2, _⟩⟩ := hcb l e hek
          have HE := hide hek
          clear hcb hek
          go_wp2
          all_goals first
            | (go_ret; exact ⟨⟨false, rfl, fun h => by cases h⟩, rfl⟩)
            | skip
          go_round
          case rel =>
            refine ⟨l + 1, _, by omega, by go_num, rfl, by omega, by omega, fun j e' hj he' => ?_⟩
            by_cases ej : j = l
            · subst ej
              rw [unhide HE] at he'
              have he2 : e = e' := by simpa using he'
              subst he2
              omega
            · exact unhide HS j e' (by omega) he'
          case measure => simp [intOf]; omega
        · have hsc : SmallC C := fun j e he => unhide HS j e (by have := (List.getElem?_eq_some_iff.1 he).1; have := unhide Hm; omega) he
          have HSC := hide hsc
          clear hsc HS
          go_wp2
          go_ret
          exact ⟨⟨true, rfl, fun _ => ⟨by have := unhide Hn; omega, by have := unhide Hm; omega, unhide HSE, unhide HSC⟩⟩, rfl⟩

/-! ### zzCloneBytesB1 (30) -/
theorem Try.info5 : (Try.prog.info? 5).map (fun i => (i.zero, i.size, i.bytes)) = some (some (.int .u8 0), 1, 1) := by kernel_rfl

set_option maxHeartbeats 1000000 in
theorem cloneb_any (v : Value) (l : List UInt8) (w : World) (hs : l.length ≤ 1048576) (hv : BytesAt w v l) :
    Calls Try.prog 30 #[v] w fun e w' => ∃ v', e = .returned v' ∧ BytesAt w' v' l ∧ Below w.heap.size w w' := by
  obtain ⟨a, c, rfl, hm, ha⟩ := hv
  have he := fun (w : World) => Lib.run_eql_slice_nil (P := Try.prog) w
  cases a with
  | none =>
    have hl : l = [] := by
      rcases ha with h | ⟨b, off, h, _⟩
      · exact h
      · cases h
    subst hl
    go_enter Try.func30, Try.ntmps30
    go_wp2
    go_ret
    exact ⟨_, rfl, BytesAt.nil _, Below.refl _ _⟩
  | some ad =>
    obtain ⟨n, hn⟩ : ∃ n, n = l.length := ⟨_, rfl⟩
    rw [← hn] at hs hm ⊢
    have Hn := hide hn
    clear hn
    go_enter Try.func30, Try.ntmps30
    go_wp2_with (refine wpList_make_is _ rfl _ _ 33 rfl 5 (.int .u8 0) 1 1 Try.underlying33 Try.info5 .i64 .i64 n rfl rfl (by omega) (by omega) ?_)
    intro w1 hrow hb1 hsz1
    rw [show n = n * 1 from (Nat.mul_one n).symm] at hrow
    have hO := OwnBytes.start (w := w1) (B := w.heap.size) (t := 5) (n := n) (by simpa using hrow)
    clear hrow
    go_wp2
    go_loopw [4] (fun j wr => ∃ k : Nat, k ≤ n ∧ j = .int .i64 k ∧ OwnBytes wr w.heap.size 5 n (l.take k) ∧ Below w.heap.size w wr) (fun j _ => n - (intOf j).toNat)
    case atStart => exact ⟨0, Nat.zero_le _, rfl, by simpa using hO, hb1⟩
    case round =>
      obtain ⟨k, hk, rfl, hOk, hbk⟩ := hrel
      clear hO hb1 hsz1
      by_cases hlt : k < n
      · obtain ⟨x, hx⟩ := get_some l k (by rw [← unhide Hn]; exact hlt)
        rcases ha with h | ⟨b, off, hb, hc⟩
        · exact absurd (unhide Hn) (by rw [h]; simp; omega)
        simp only [Option.some.injEq] at hb
        subst hb
        have g1 := cell_below hbk (hc k x hx)
        obtain ⟨⟨v1, c1⟩, f1⟩ := hOk.room k hlt
        have hs := hOk.step (take_len l k (by rw [← unhide Hn]; exact hk)) hlt x
        rw [← take_snoc l k x hx] at hs
        clear hc hx
        go_wp2
        go_roundw
        case rel => exact ⟨k + 1, by omega, by go_num, hs, hbk.setCell (Nat.le_refl _) _⟩
        case measure => simp [intOf]; omega
      · have hkn : k = n := by omega
        subst hkn
        rw [List.take_of_length_le (by rw [← unhide Hn]; exact Nat.le_refl _)] at hOk
        have hB := hOk.bytes (by rw [← unhide Hn]; exact hm) k
        rw [← unhide Hn] at hB
        clear hOk
        go_wp2
        go_ret
        exact ⟨_, rfl, hB, hbk⟩

/-! ### zzMergeAscendingB1 (11) -/
/-- wr is w but for some draws -/
def Drawn (w wr : World) : Prop := ∃ q, wr = w.drewN q
theorem Drawn.refl (w : World) : Drawn w w := ⟨0, rfl⟩
theorem Drawn.more {w wr : World} (h : Drawn w wr) (n : Nat) : Drawn w (wr.drewN n) := by
  obtain ⟨q, rfl⟩ := h
  exact ⟨q + n, by rw [World.drewN_drewN]⟩
theorem Drawn.cell {w wr : World} (h : Drawn w wr) {a : Addr} {v : Value} (hc : w.cell? a = some v) : wr.cell? a = some v := by
  obtain ⟨q, rfl⟩ := h
  exact hc
theorem Drawn.bytes {w wr : World} (h : Drawn w wr) {v : Value} {l : List UInt8} (hb : BytesAt w v l) : BytesAt wr v l := by
  obtain ⟨q, rfl⟩ := h
  exact hb.move fun _ _ _ h => h
theorem Drawn.below {w wr : World} (h : Drawn w wr) : Below w.heap.size w wr := by
  obtain ⟨q, rfl⟩ := h
  exact below_drewN (Below.refl _ _) q
/-- the keys ascend -/
def AscE (E : List (List UInt8 × List UInt8)) : Prop := ∀ (j : Nat) (e e' : List UInt8 × List UInt8), E[j]? = some e → E[j + 1]? = some e' → Lib.compareBytes e.1 e'.1 < 0
def AscC (C : List (List UInt8 × List UInt8 × Bool)) : Prop := ∀ (j : Nat) (e e' : List UInt8 × List UInt8 × Bool), C[j]? = some e → C[j + 1]? = some e' → Lib.compareBytes e.1 e'.1 < 0
def RetAsc (E : List (List UInt8 × List UInt8)) (C : List (List UInt8 × List UInt8 × Bool)) (e : Ending) : Prop := ∃ r : Bool, e = .returned (.bool r) ∧ (r = true → AscE E ∧ AscC C)

set_option maxHeartbeats 1000000 in
theorem asc_any (ve vc : Value) (E : List (List UInt8 × List UInt8)) (C : List (List UInt8 × List UInt8 × Bool)) (w : World) (he : EntsAt w ve E) (hc : ChgsAt w vc C) :
    Calls Try.prog 11 #[ve, vc] w fun e w' => RetAsc E C e ∧ Drawn w w' := by
  obtain ⟨a, ca, rfl, hla, hma, ha⟩ := he
  obtain ⟨b, cb, rfl, hlb, hmb, hb⟩ := hc
  obtain ⟨n, hn⟩ : ∃ n, n = E.length := ⟨_, rfl⟩
  obtain ⟨m, hm⟩ : ∃ m, m = C.length := ⟨_, rfl⟩
  rw [← hn] at hla ⊢
  rw [← hm] at hlb ⊢
  have Hn := hide hn
  have Hm := hide hm
  clear hn hm
  go_enter Try.func11, Try.ntmps11
  go_wp2
  go_loopw [5] (fun j wr => ∃ k : Nat, (k ≤ n ∨ k = 1) ∧ 1 ≤ k ∧ j = .int .i64 k ∧ Hid (∀ (j : Nat) (e e' : List UInt8 × List UInt8), j + 1 < k → E[j]? = some e → E[j + 1]? = some e' → Lib.compareBytes e.1 e'.1 < 0) ∧ Drawn w wr) (fun j _ => n - (intOf j).toNat)
  case atStart => exact ⟨1, .inr rfl, Nat.le_refl _, rfl, fun j e e' h => absurd h (by omega), Drawn.refl _⟩
  case round =>
    obtain ⟨k, hk, hk1, rfl, HS, hD⟩ := hrel
    by_cases hlt : k < n
    · obtain ⟨i, rfl⟩ : ∃ i, k = i + 1 := ⟨k - 1, by omega⟩
      obtain ⟨e, hek⟩ := get_some E i (by rw [← unhide Hn]; omega)
      obtain ⟨e', hek'⟩ := get_some E (i + 1) (by rw [← unhide Hn]; omega)
      rcases ha with h | ⟨b1, o1, rfl, hca⟩
      · exact absurd (unhide Hn) (by rw [h]; simp; omega)
      obtain ⟨v1, v2, g1, g2, hB1, _⟩ := hca i e hek
      obtain ⟨v1', v2', g1', g2', hB1', _⟩ := hca (i + 1) e' hek'
      have hcall := fun q => cmp_any v1 v1' e.1 e'.1 (wr.drewN q) ((hD.more q).bytes hB1) ((hD.more q).bytes hB1')
      have g3 := hD.cell g1
      have g4 := hD.cell g1'
      obtain ⟨a1, c1, rfl, hm1, _⟩ := hB1
      obtain ⟨a1', c1', rfl, hm1', _⟩ := hB1'
      obtain ⟨R, hR⟩ : ∃ R, R = Lib.compareBytes e.1 e'.1 := ⟨_, rfl⟩
      rw [← hR] at hcall
      have HCALL := hide hcall
      have HE := hide hek
      have HE' := hide hek'
      have HR := hide hR
      clear hca hek hek' hcall hR g1 g2 g1' g2'
      have hwk : IntKind.i64.wrap (i : Int) = (i : Int) := by rw [IntKind.wrap_i64]; omega
      have h1' : (i : Int) + 1 < (n : Int) := by omega
      have hp0 : (0 : Int) ≤ (i : Int) + 1 := by omega
      have hp2 : ((i : Int) + 1).toNat = i + 1 := by omega
      have h2' : (i : Int) < (n : Int) := by omega
      by_cases hR0 : R < 0
      · have hd : decide (0 ≤ R) = false := by simp; omega
        go_wp2
        go_quiet ((go_at_call 17; exact Calls.quiet_of (unhide HCALL _)))
        go_wp2
        go_roundw
        case rel =>
          refine ⟨i + 1 + 1, by omega, by omega, by go_num, fun j e1 e2 hj h1 h2 => ?_, hD.more _⟩
          by_cases ej : j = i
          · subst ej
            rw [unhide HE] at h1
            rw [unhide HE'] at h2
            have x1 : e = e1 := by simpa using h1
            have x2 : e' = e2 := by simpa using h2
            subst x1 x2
            rw [← unhide HR]
            exact hR0
          · exact unhide HS j e1 e2 (by omega) h1 h2
        case measure => simp [intOf]; omega
      · have hd : decide (0 ≤ R) = true := by simp; omega
        go_wp2
        go_quiet ((go_at_call 17; exact Calls.quiet_of (unhide HCALL _)))
        go_wp2
        go_ret
        exact ⟨⟨false, rfl, fun h => by cases h⟩, hD.more _⟩
    · have hse : AscE E := fun j e e' h1 h2 => unhide HS j e e' (by have := (List.getElem?_eq_some_iff.1 h2).1; have := unhide Hn; omega) h1 h2
      have HSE := hide hse
      clear hse HS
      go_wp2
      go_loopw [6] (fun j wr => ∃ k : Nat, (k ≤ m ∨ k = 1) ∧ 1 ≤ k ∧ j = .int .i64 k ∧ Hid (∀ (j : Nat) (e e' : List UInt8 × List UInt8 × Bool), j + 1 < k → C[j]? = some e → C[j + 1]? = some e' → Lib.compareBytes e.1 e'.1 < 0) ∧ Drawn w wr) (fun j _ => m - (intOf j).toNat)
      case atStart => exact ⟨1, .inr rfl, Nat.le_refl _, rfl, fun j e e' h => absurd h (by omega), hD⟩
      case round =>
        obtain ⟨l, hl, hl1, rfl, HS, hD2⟩ := hrel
        by_cases hlt2 : l < m
        · obtain ⟨i, rfl⟩ : ∃ i, l = i + 1 := ⟨l - 1, by omega⟩
          obtain ⟨e, hek⟩ := get_some C i (by rw [← unhide Hm]; omega)
          obtain ⟨e', hek'⟩ := get_some C (i + 1) (by rw [← unhide Hm]; omega)
          rcases hb with h | ⟨b1, o1, rfl, hca⟩
          · exact absurd (unhide Hm) (by rw [h]; simp; omega)
          obtain ⟨v1, v2, g1, g2, _, hB1, _⟩ := hca i e hek
          obtain ⟨v1', v2', g1', g2', _, hB1', _⟩ := hca (i + 1) e' hek'
          have hcall := fun q => cmp_any v1 v1' e.1 e'.1 (wr.drewN q) ((hD2.more q).bytes hB1) ((hD2.more q).bytes hB1')
          have g3 := hD2.cell g1
          have g4 := hD2.cell g1'
          obtain ⟨a1, c1, rfl, hm1, _⟩ := hB1
          obtain ⟨a1', c1', rfl, hm1', _⟩ := hB1'
          obtain ⟨R, hR⟩ : ∃ R, R = Lib.compareBytes e.1 e'.1 := ⟨_, rfl⟩
          rw [← hR] at hcall
          have HCALL := hide hcall
          have HE := hide hek
          have HE' := hide hek'
          have HR := hide hR
          clear hca hek hek' hcall hR g1 g2 g1' g2'
          have hwk : IntKind.i64.wrap (i : Int) = (i : Int) := by rw [IntKind.wrap_i64]; omega
          have h1' : (i : Int) + 1 < (m : Int) := by omega
          have hp0 : (0 : Int) ≤ (i : Int) + 1 := by omega
          have hp2 : ((i : Int) + 1).toNat = i + 1 := by omega
          have h2' : (i : Int) < (m : Int) := by omega
          by_cases hR0 : R < 0
          · have hd : decide (0 ≤ R) = false := by simp; omega
            go_wp2
            go_quiet ((go_at_call 17; exact Calls.quiet_of (unhide HCALL _)))
            go_wp2
            go_roundw
            case rel =>
              refine ⟨i + 1 + 1, by omega, by omega, by go_num, fun j e1 e2 hj h1 h2 => ?_, hD2.more _⟩
              by_cases ej : j = i
              · subst ej
                rw [unhide HE] at h1
                rw [unhide HE'] at h2
                have x1 : e = e1 := by simpa using h1
                have x2 : e' = e2 := by simpa using h2
                subst x1 x2
                rw [← unhide HR]
                exact hR0
              · exact unhide HS j e1 e2 (by omega) h1 h2
            case measure => simp [intOf]; omega
          · have hd : decide (0 ≤ R) = true := by simp; omega
            go_wp2
            go_quiet ((go_at_call 17; exact Calls.quiet_of (unhide HCALL _)))
            go_wp2
            go_ret
            exact ⟨⟨false, rfl, fun h => by cases h⟩, hD2.more _⟩
        · have hsc : AscC C := fun j e e' h1 h2 => unhide HS j e e' (by have := (List.getElem?_eq_some_iff.1 h2).1; have := unhide Hm; omega) h1 h2
          have HSC := hide hsc
          clear hsc HS
          go_wp2
          go_ret
          exact ⟨⟨true, rfl, fun _ => ⟨unhide HSE, unhide HSC⟩⟩, hD2⟩
end Go.Proofs.Qxb6602657a
