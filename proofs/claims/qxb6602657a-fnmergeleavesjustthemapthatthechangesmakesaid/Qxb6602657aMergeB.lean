/-
  Contracts on the road of the law over merge: zzCloneEntriesB1 (12), zzCloneChgsB1 (13), zzToEntriesB1 (15), zzToChangesB1 (16).
-/
import Derived.Test.Qxb6602657aMergeA
import Derived.Deep.RegionWith
import Derived.Deep.RegionHeld3
namespace Go.Proofs.Qxb6602657a
open Go.RowKit
set_option linter.unusedVariables false

theorem Try.info38 : (Try.prog.info? 38).map (fun i => (i.zero, i.size, i.bytes)) = some (some (.agg #[.slice none 0 0, .slice none 0 0]), 2, 48) := by kernel_rfl
theorem zero2 (j : Nat) (x : Int) : ([Value.slice none 0 0, Value.slice none 0 0][j % 2]?.getD default : Value) ≠ .int .u8 x := by
  rcases (show j % 2 = 0 ∨ j % 2 = 1 by omega) with h | h <;> rw [h] <;> intro h <;> cases h

theorem cloneb_shape (v : Value) (l : List UInt8) (w : World) (hs : l.length ≤ 1048576) (hv : BytesAt w v l) :
    Calls Try.prog 30 #[v] w fun e w' => ∃ a c, e = .returned (.slice a l.length c) ∧ BytesAt w' (.slice a l.length c) l ∧ Below w.heap.size w w' := by
  refine (cloneb_any v l w hs hv).mono ?_
  rintro e w' ⟨v', rfl, hb, hw⟩
  obtain ⟨a, c, rfl, h⟩ := hb
  exact ⟨a, c, rfl, ⟨a, c, rfl, h⟩, hw⟩

set_option maxHeartbeats 1000000 in
theorem clonee_any (v : Value) (E : List (List UInt8 × List UInt8)) (w : World) (hs : E.length ≤ 65536) (hse : SmallE E) (hv : EntsAt w v E) :
    Calls Try.prog 12 #[v] w fun e w' => ∃ v', e = .returned v' ∧ EntsAt w' v' E ∧ Below w.heap.size w w' := by
  obtain ⟨a, c, rfl, hlc, hm, ha⟩ := hv
  have he := fun (w : World) => Lib.run_eql_slice_nil (P := Try.prog) w
  have HSE := hide hse
  clear hse
  cases a with
  | none =>
    have hl : E = [] := by
      rcases ha with h | ⟨b, off, h, _⟩
      · exact h
      · cases h
    subst hl
    go_enter Try.func12, Try.ntmps12
    go_wp2
    go_ret
    exact ⟨_, rfl, ⟨none, 0, rfl, by simp, by simp, .inl rfl⟩, Below.refl _ _⟩
  | some ad =>
    obtain ⟨n, hn⟩ : ∃ n, n = E.length := ⟨_, rfl⟩
    rw [← hn] at hs hlc ⊢
    have Hn := hide hn
    clear hn
    go_enter Try.func12, Try.ntmps12
    go_wp2_with (refine wpList_make_is _ rfl _ _ 22 rfl 38 (.agg #[.slice none 0 0, .slice none 0 0]) 2 48 Try.underlying22 Try.info38 .i64 .i64 n rfl rfl (by omega) (by omega) ?_)
    intro w1 hrow hb1 hsz1
    have hO := OwnEnts.start (w := w1) (B := w.heap.size) (t := 38) (n := n) hrow (fun j x => zero2 j x)
    clear hrow
    go_wp2
    go_loopw [4] (fun j wr => ∃ k : Nat, k ≤ n ∧ j = .int .i64 k ∧ OwnEnts wr w.heap.size 38 n (E.take k) ∧ Below w.heap.size w wr) (fun j _ => n - (intOf j).toNat)
    case atStart => exact ⟨0, Nat.zero_le _, rfl, by simpa using hO, hb1⟩
    case round =>
      obtain ⟨k, hk, rfl, hOk, hbk⟩ := hrel
      clear hO hb1 hsz1
      by_cases hlt : k < n
      · obtain ⟨x, hx⟩ := get_some E k (by rw [← unhide Hn]; exact hlt)
        rcases ha with h | ⟨b, off, hb, hc⟩
        · exact absurd (unhide Hn) (by rw [h]; simp; omega)
        simp only [Option.some.injEq] at hb
        subst hb
        obtain ⟨v1, v2, g1, g2, hB1, hB2⟩ := hc k x hx
        have hx1 := (unhide HSE) k x hx
        have c1 := cell_below hbk g1
        have c2 := cell_below hbk g2
        have hlen := take_len E k (by rw [← unhide Hn]; exact hk)
        have hlB := hOk.lt
        have H1 := hide (cloneb_shape v1 x.1 wr.drew hx1.1 ((hB1.below hbk).below (Below.refl _ _).drew))
        have H2 := hide (fun (w2 : World) (h : Below wr.heap.size wr w2) => cloneb_shape v2 x.2 w2 hx1.2 ((hB2.below hbk).below h))
        have HB := hide (fun (v1 v2 : Value) (w2 : World) (h : Below wr.heap.size wr w2) (h1 : BytesAt w2 v1 x.1) (h2 : BytesAt w2 v2 x.2) => (hOk.below h).step hlen hlt h1 h2)
        have HR := hide (fun (w2 : World) (h : Below wr.heap.size wr w2) => (hOk.below h).room k hlt)
        have HT := hide (take_snoc E k x hx)
        have hlt' : (k : Int) < (n : Int) := by omega
        clear hc hx hB1 hB2 g1 g2 hx1 hlen hOk
        go_wp2
        go_region_with (first
          | (go_at_call_of 30 v1; refine (unhide H1).mono ?_; rintro e w2 ⟨a1', c1', rfl, hV1, hwd⟩; have hw2 : Below wr.heap.size wr w2 := (Below.refl _ wr).drew.trans hwd; have c2' := cell_below hw2 c2)
          | (go_at_call_of 30 v2; refine (unhide H2 _ (hw2)).mono ?_; rintro e w3 ⟨a2', c2'', rfl, hV2, hw3⟩; obtain ⟨⟨u1, k1⟩, ⟨u2, k2⟩, f1, f2⟩ := unhide HR w3 (hw2.trans (hw3.mono hw2.size))))
        all_goals
          have hs := unhide HB _ _ w3 (hw2.trans (hw3.mono hw2.size)) (hV1.below hw3) hV2
          rw [← unhide HT] at hs
          have hb3 := hbk.trans ((hw2.trans (hw3.mono hw2.size)).mono hbk.size)
          clear hw2 hw3 hV1 hV2 HB HR H1 H2
          go_wp2
          go_roundw
          case rel => exact ⟨k + 1, by omega, by go_num, hs, (hb3.setCell (Nat.le_refl _) _).setCell (Nat.le_refl _) _⟩
          case measure => simp [intOf]; omega
      · have hkn : k = n := by omega
        subst hkn
        rw [List.take_of_length_le (by rw [← unhide Hn]; exact Nat.le_refl _)] at hOk
        have hB := hOk.ents (c := k) (by rw [← unhide Hn]; exact Nat.le_refl _) (by omega)
        rw [← unhide Hn] at hB
        clear hOk
        go_wp2
        go_ret
        exact ⟨_, rfl, hB, hbk⟩
theorem Try.info40 : (Try.prog.info? 40).map (fun i => (i.zero, i.size, i.bytes)) = some (some (.agg #[.slice none 0 0, .slice none 0 0, .bool false]), 3, 56) := by kernel_rfl
theorem zero3 (j : Nat) (x : Int) : ([Value.slice none 0 0, Value.slice none 0 0, Value.bool false][j % 3]?.getD default : Value) ≠ .int .u8 x := by
  rcases (show j % 3 = 0 ∨ j % 3 = 1 ∨ j % 3 = 2 by omega) with h | h | h <;> rw [h] <;> intro h <;> cases h
theorem keep3 {w : World} {b B o1 o2 o3 p1 p2 p3 : Nat} {v1 v2 v3 u1 u2 u3 : Value} (hbB : b ≠ B) (e1 : w.cell? ⟨b, o1, none⟩ = some v1) (e2 : w.cell? ⟨b, o2, none⟩ = some v2) (e3 : w.cell? ⟨b, o3, none⟩ = some v3) :
    (((w.setCell ⟨B, p1, none⟩ u1).setCell ⟨B, p2, none⟩ u2).setCell ⟨B, p3, none⟩ u3).cell? ⟨b, o1, none⟩ = some v1 ∧ (((w.setCell ⟨B, p1, none⟩ u1).setCell ⟨B, p2, none⟩ u2).setCell ⟨B, p3, none⟩ u3).cell? ⟨b, o2, none⟩ = some v2 ∧ (((w.setCell ⟨B, p1, none⟩ u1).setCell ⟨B, p2, none⟩ u2).setCell ⟨B, p3, none⟩ u3).cell? ⟨b, o3, none⟩ = some v3 := by
  have h : ∀ o, (((w.setCell ⟨B, p1, none⟩ u1).setCell ⟨B, p2, none⟩ u2).setCell ⟨B, p3, none⟩ u3).cell? ⟨b, o, none⟩ = w.cell? ⟨b, o, none⟩ := fun o =>
    (World.cell?_of_block (a := ⟨b, o, none⟩) (Go.Deep.blk_setCell_other _ _ _ _ hbB)).trans ((World.cell?_of_block (a := ⟨b, o, none⟩) (Go.Deep.blk_setCell_other _ _ _ _ hbB)).trans (World.cell?_of_block (a := ⟨b, o, none⟩) (Go.Deep.blk_setCell_other _ _ _ _ hbB)))
  exact ⟨(h _).trans e1, (h _).trans e2, (h _).trans e3⟩
set_option maxHeartbeats 1000000 in
theorem clonec_any (v : Value) (E : List (List UInt8 × List UInt8 × Bool)) (w : World) (hs : E.length ≤ 65536) (hse : SmallC E) (hv : ChgsAt w v E) :
    Calls Try.prog 13 #[v] w fun e w' => ∃ v', e = .returned v' ∧ ChgsAt w' v' E ∧ Below w.heap.size w w' := by
  obtain ⟨a, c, rfl, hlc, hm, ha⟩ := hv
  have he := fun (w : World) => Lib.run_eql_slice_nil (P := Try.prog) w
  have HSE := hide hse
  clear hse
  cases a with
  | none =>
    have hl : E = [] := by
      rcases ha with h | ⟨b, off, h, _⟩
      · exact h
      · cases h
    subst hl
    go_enter Try.func13, Try.ntmps13
    go_wp2
    go_ret
    exact ⟨_, rfl, ⟨none, 0, rfl, by simp, by simp, .inl rfl⟩, Below.refl _ _⟩
  | some ad =>
    obtain ⟨n, hn⟩ : ∃ n, n = E.length := ⟨_, rfl⟩
    rw [← hn] at hs hlc ⊢
    have Hn := hide hn
    clear hn
    go_enter Try.func13, Try.ntmps13
    go_wp2_with (refine wpList_make_is _ rfl _ _ 23 rfl 40 (.agg #[.slice none 0 0, .slice none 0 0, .bool false]) 3 56 Try.underlying23 Try.info40 .i64 .i64 n rfl rfl (by omega) (by omega) ?_)
    intro w1 hrow hb1 hsz1
    have hO := OwnChgs.start (w := w1) (B := w.heap.size) (t := 40) (n := n) hrow (fun j x => zero3 j x)
    clear hrow
    go_wp2
    go_loopw [4] (fun j wr => ∃ k : Nat, k ≤ n ∧ j = .int .i64 k ∧ OwnChgs wr w.heap.size 40 n (E.take k) ∧ Below w.heap.size w wr) (fun j _ => n - (intOf j).toNat)
    case atStart => exact ⟨0, Nat.zero_le _, rfl, by simpa using hO, hb1⟩
    case round =>
      obtain ⟨k, hk, rfl, hOk, hbk⟩ := hrel
      clear hO hb1 hsz1
      by_cases hlt : k < n
      · obtain ⟨x, hx⟩ := get_some E k (by rw [← unhide Hn]; exact hlt)
        rcases ha with h | ⟨b, off, hb, hc⟩
        · exact absurd (unhide Hn) (by rw [h]; simp; omega)
        simp only [Option.some.injEq] at hb
        subst hb
        obtain ⟨v1, v2, g1, g2, g3, hB1, hB2⟩ := hc k x hx
        have hx1 := (unhide HSE) k x hx
        have c1 := cell_below hbk g1
        have c2 := cell_below hbk g2
        have c3 := cell_below hbk g3
        have hlen := take_len E k (by rw [← unhide Hn]; exact hk)
        have hlB := hOk.lt
        have H1 := hide (cloneb_shape v1 x.1 wr.drew hx1.1 ((hB1.below hbk).below (Below.refl _ _).drew))
        have H2 := hide (fun (w2 : World) (h : Below wr.heap.size wr w2) => cloneb_shape v2 x.2.1 w2 hx1.2 ((hB2.below hbk).below h))
        have HB := hide (fun (v1 v2 : Value) (w2 : World) (h : Below wr.heap.size wr w2) (h1 : BytesAt w2 v1 x.1) (h2 : BytesAt w2 v2 x.2.1) => (hOk.below h).step hlen hlt h1 h2)
        have HR := hide (fun (w2 : World) (h : Below wr.heap.size wr w2) => (hOk.below h).room k hlt)
        have HT := hide (take_snoc E k x hx)
        have hlt' : (k : Int) < (n : Int) := by omega
        have hbB : b ≠ w.heap.size := by
          have := block_lt_of_cell g1
          simp at this
          omega
        clear hc hx hB1 hB2 g1 g2 g3 hx1 hlen hOk
        go_wp2
        go_region_held3 (fun w' => w'.cell? ⟨b, off + k * 3, none⟩ = some v1 ∧ w'.cell? ⟨b, off + k * 3 + 1, none⟩ = some v2 ∧ w'.cell? ⟨b, off + k * 3 + 2, none⟩ = some (.bool x.2.2))
          (first | exact ⟨c1, c2, c3⟩ | exact ⟨d1, d2, d3⟩ | exact ⟨e1, e2, e3⟩ | (exact keep3 hbB e1 e2 e3))
          (first
          | (go_at_call_of 30 v1; refine (unhide H1).mono ?_; rintro e w2 ⟨a1', c1', rfl, hV1, hwd⟩; have hw2 : Below wr.heap.size wr w2 := (Below.refl _ wr).drew.trans hwd; have d1 := cell_below hw2 c1; have d2 := cell_below hw2 c2; have d3 := cell_below hw2 c3)
          | (go_at_call_of 30 v2; refine (unhide H2 _ (hw2)).mono ?_; rintro e w3 ⟨a2', c2'', rfl, hV2, hw3⟩; have e1 := cell_below hw3 d1; have e2 := cell_below hw3 d2; have e3 := cell_below hw3 d3; obtain ⟨⟨u1, k1⟩, ⟨u2, k2⟩, ⟨u3, k3⟩, f1⟩ := unhide HR w3 (hw2.trans (hw3.mono hw2.size))))
        all_goals
          have hs := unhide HB _ _ w3 (hw2.trans (hw3.mono hw2.size)) (hV1.below hw3) hV2
          rw [← unhide HT] at hs
          have hb3 := hbk.trans ((hw2.trans (hw3.mono hw2.size)).mono hbk.size)
          clear hw2 hw3 hV1 hV2 HB HR H1 H2
          go_wp2
          go_roundw
          case rel => exact ⟨k + 1, by omega, by go_num, hs, ((hb3.setCell (Nat.le_refl _) _).setCell (Nat.le_refl _) _).setCell (Nat.le_refl _) _⟩
          case measure => simp [intOf]; omega
      · have hkn : k = n := by omega
        subst hkn
        rw [List.take_of_length_le (by rw [← unhide Hn]; exact Nat.le_refl _)] at hOk
        have hB := hOk.chgs (c := k) (by rw [← unhide Hn]; exact Nat.le_refl _) (by omega)
        rw [← unhide Hn] at hB
        clear hOk
        go_wp2
        go_ret
        exact ⟨_, rfl, hB, hbk⟩

theorem Try.info35 : (Try.prog.info? 35).map (fun i => (i.zero, i.size, i.bytes)) = some (some (.agg #[.slice none 0 0, .slice none 0 0]), 2, 48) := by kernel_rfl
theorem Try.info62 : (Try.prog.info? 62).map (fun i => (i.zero, i.size, i.bytes)) = some (some (.agg #[.slice none 0 0, .slice none 0 0, .bool false]), 3, 56) := by kernel_rfl

set_option maxHeartbeats 1000000 in
theorem toe_any (v : Value) (E : List (List UInt8 × List UInt8)) (w : World) (hs : E.length ≤ 65536) (hv : EntsAt w v E) :
    Calls Try.prog 15 #[v] w fun e w' => ∃ v', e = .returned v' ∧ EntsAt w' v' E ∧ Below w.heap.size w w' := by
  obtain ⟨a, c, rfl, hlc, hm, ha⟩ := hv
  obtain ⟨n, hn⟩ : ∃ n, n = E.length := ⟨_, rfl⟩
  rw [← hn] at hs hlc ⊢
  have Hn := hide hn
  clear hn
  go_enter Try.func15, Try.ntmps15
  go_wp2_with (refine wpList_make_is _ rfl _ _ 27 rfl 35 (.agg #[.slice none 0 0, .slice none 0 0]) 2 48 Try.underlying27 Try.info35 .i64 .i64 n rfl rfl (by omega) (by omega) ?_)
  intro w1 hrow hb1 hsz1
  have hO := OwnEnts.start (w := w1) (B := w.heap.size) (t := 35) (n := n) hrow (fun j x => zero2 j x)
  clear hrow
  go_wp2
  go_loopw [4] (fun j wr => ∃ k : Nat, k ≤ n ∧ j = .int .i64 k ∧ OwnEnts wr w.heap.size 35 n (E.take k) ∧ Below w.heap.size w wr) (fun j _ => n - (intOf j).toNat)
  case atStart => exact ⟨0, Nat.zero_le _, rfl, by simpa using hO, hb1⟩
  case round =>
    obtain ⟨k, hk, rfl, hOk, hbk⟩ := hrel
    clear hO hb1 hsz1
    by_cases hlt : k < n
    · obtain ⟨x, hx⟩ := get_some E k (by rw [← unhide Hn]; exact hlt)
      rcases ha with h | ⟨b, off, rfl, hc⟩
      · exact absurd (unhide Hn) (by rw [h]; simp; omega)
      obtain ⟨v1, v2, g1, g2, hB1, hB2⟩ := hc k x hx
      have c1 := cell_below hbk g1
      have c2 := cell_below hbk g2
      have hs1 := hOk.step (take_len E k (by rw [← unhide Hn]; exact hk)) hlt (hB1.below hbk) (hB2.below hbk)
      rw [← take_snoc E k x hx] at hs1
      obtain ⟨⟨u1, k1⟩, ⟨u2, k2⟩, f1, f2⟩ := hOk.room k hlt
      obtain ⟨a1, q1, rfl, _⟩ := hB1
      obtain ⟨a2, q2, rfl, _⟩ := hB2
      have HS := hide hs1
      clear hc hx g1 g2 hs1 hOk
      go_wp2
      go_region
      all_goals go_wp2
      all_goals go_roundw
      case rel => exact ⟨k + 1, by omega, by go_num, (unhide HS).below (Below.refl _ _).drew, ((hbk.setCell (Nat.le_refl _) _).setCell (Nat.le_refl _) _).drew⟩
      case measure => simp [intOf]; omega
    · have hkn : k = n := by omega
      subst hkn
      rw [List.take_of_length_le (by rw [← unhide Hn]; exact Nat.le_refl _)] at hOk
      have hB := hOk.ents (c := k) (by rw [← unhide Hn]; exact Nat.le_refl _) (by omega)
      rw [← unhide Hn] at hB
      clear hOk
      go_wp2
      go_ret
      exact ⟨_, rfl, hB, hbk⟩

set_option maxHeartbeats 1000000 in
theorem toc_any (v : Value) (E : List (List UInt8 × List UInt8 × Bool)) (w : World) (hs : E.length ≤ 65536) (hv : ChgsAt w v E) :
    Calls Try.prog 16 #[v] w fun e w' => ∃ v', e = .returned v' ∧ ChgsAt w' v' E ∧ Below w.heap.size w w' := by
  obtain ⟨a, c, rfl, hlc, hm, ha⟩ := hv
  obtain ⟨n, hn⟩ : ∃ n, n = E.length := ⟨_, rfl⟩
  rw [← hn] at hs hlc ⊢
  have Hn := hide hn
  clear hn
  go_enter Try.func16, Try.ntmps16
  go_wp2_with (refine wpList_make_is _ rfl _ _ 30 rfl 62 (.agg #[.slice none 0 0, .slice none 0 0, .bool false]) 3 56 Try.underlying30 Try.info62 .i64 .i64 n rfl rfl (by omega) (by omega) ?_)
  intro w1 hrow hb1 hsz1
  have hO := OwnChgs.start (w := w1) (B := w.heap.size) (t := 62) (n := n) hrow (fun j x => zero3 j x)
  clear hrow
  go_wp2
  go_loopw [4] (fun j wr => ∃ k : Nat, k ≤ n ∧ j = .int .i64 k ∧ OwnChgs wr w.heap.size 62 n (E.take k) ∧ Below w.heap.size w wr) (fun j _ => n - (intOf j).toNat)
  case atStart => exact ⟨0, Nat.zero_le _, rfl, by simpa using hO, hb1⟩
  case round =>
    obtain ⟨k, hk, rfl, hOk, hbk⟩ := hrel
    clear hO hb1 hsz1
    by_cases hlt : k < n
    · obtain ⟨x, hx⟩ := get_some E k (by rw [← unhide Hn]; exact hlt)
      rcases ha with h | ⟨b, off, rfl, hc⟩
      · exact absurd (unhide Hn) (by rw [h]; simp; omega)
      obtain ⟨v1, v2, g1, g2, g3, hB1, hB2⟩ := hc k x hx
      have c1 := cell_below hbk g1
      have c2 := cell_below hbk g2
      have c3 := cell_below hbk g3
      have hs1 := hOk.step (take_len E k (by rw [← unhide Hn]; exact hk)) hlt (hB1.below hbk) (hB2.below hbk)
      rw [← take_snoc E k x hx] at hs1
      obtain ⟨⟨u1, k1⟩, ⟨u2, k2⟩, ⟨u3, k3⟩, f1⟩ := hOk.room k hlt
      obtain ⟨a1, q1, rfl, _⟩ := hB1
      obtain ⟨a2, q2, rfl, _⟩ := hB2
      have HS := hide hs1
      clear hc hx g1 g2 g3 hs1 hOk
      go_wp2
      go_region
      all_goals go_wp2
      all_goals go_roundw
      case rel => exact ⟨k + 1, by omega, by go_num, (unhide HS).below (Below.refl _ _).drew, (((hbk.setCell (Nat.le_refl _) _).setCell (Nat.le_refl _) _).setCell (Nat.le_refl _) _).drew⟩
      case measure => simp [intOf]; omega
    · have hkn : k = n := by omega
      subst hkn
      rw [List.take_of_length_le (by rw [← unhide Hn]; exact Nat.le_refl _)] at hOk
      have hB := hOk.chgs (c := k) (by rw [← unhide Hn]; exact Nat.le_refl _) (by omega)
      rw [← unhide Hn] at hB
      clear hOk
      go_wp2
      go_ret
      exact ⟨_, rfl, hB, hbk⟩
end Go.Proofs.Qxb6602657a
