/-
  merge (31): the walk of one call, by a loop's relation: what is merged so far, and what is left of both lists.
-/
import Derived.Test.Qxb6602657aMergeB
import Derived.Test.Qxb6602657aMergeDef
import Derived.Deep.RegionLaw
import Derived.Deep.QuietTactic
import Derived.BigQuiet
namespace Go.Proofs.Qxb6602657a
open Go.RowKit
set_option linter.unusedVariables false
set_option linter.unusedSimpArgs false

theorem Try.info60 : (Try.prog.info? 60).map (fun i => (i.zero, i.size, i.bytes)) = some (some (.agg #[.slice none 0 0, .slice none 0 0]), 2, 48) := by kernel_rfl

/-! ### 'append(merged, e)' within the capacity -/
theorem run_append_ent {P : Program} (w : World) (t ty e : TypeId) (i : TypeInfo) (h1 : P.underlying t = some (.slice e)) (h2 : P.info? e = some i) (h4 : i.size = 2)
    (g k cap : Nat) (M : List (List UInt8 × List UInt8)) (x : List UInt8 × List UInt8) (hM : M.length = k) (hO : OwnEnts w g e cap M) (hk : k < cap) (ad : Addr) (c : Nat) (v1 v2 : Value) (hc0 : w.cell? ad = some v1) (hc1 : w.cell? (ad.add 1) = some v2) (hb1 : BytesAt w v1 x.1) (hb2 : BytesAt w v2 x.2) :
    ∃ w', (Builtin.append_ #[t, t] ty #[.slice (some ⟨g, 0, none⟩) k cap, .slice (some ad) 1 c]).run P w = .ok (.slice (some ⟨g, 0, none⟩) (k + 1) cap) w' ∧ OwnEnts w' g e cap (M ++ [x]) ∧ w.grownBy w' (some g) ∧ w'.heap.size = w.heap.size := by
  obtain ⟨⟨u1, c1⟩, ⟨u2, c2⟩, f1, f2⟩ := hO.room k hk
  have o1 : v1.oneCell' = true := by obtain ⟨_, _, rfl, _⟩ := hb1; rfl
  have o2 : v2.oneCell' = true := by obtain ⟨_, _, rfl, _⟩ := hb2; rfl
  have hrun := run_append_room_cells (P := P) w t ty e i h1 h2 g 0 k cap ad 1 c [v1, v2] (by simp [h4]) (by
      intro j u hu
      match j, hu with
      | 0, hu => simp at hu; subst hu; rw [show ad.add 0 = ad from rfl]; exact hc0
      | 1, hu => simp at hu; subst hu; exact hc1
      | j + 2, hu => simp at hu) (by intro u hu; simp at hu; rcases hu with rfl | rfl <;> assumption) (by omega)
    (by
      intro j hj
      rw [h4, Nat.zero_add]
      match j, hj with
      | 0, _ => rw [Nat.add_zero, c1]; rfl
      | 1, _ => rw [c2]; rfl)
    (by
      intro j hj
      rw [h4, Nat.zero_add]
      match j, hj with
      | 0, _ => exact f1
      | 1, _ => exact f2)
  refine ⟨_, hrun, ?_, grownBy_setCells _ _ _ _, size_setCells _ _ _ _⟩
  rw [h4, Nat.zero_add]
  exact hO.step hM hk hb1 hb2
theorem step_append_ent {P : Program} {ops : Array Oper} {o : Oper} {a : Act} {w : World} {K : Act → World → Prop} {Q : Exit → Act → World → Prop} {E : Prop}
    (hg : o.guard = none) (s x : Operand) (t : TypeId) (hop : o.op = Op.call { callee := Callee.builtin Builtin.append, args := #[s, x], argTypes := #[t, t] })
    (e : TypeId) (i : TypeInfo) (h1 : P.underlying t = some (.slice e)) (h2 : P.info? e = some i) (h4 : i.size = 2)
    (g k cap : Nat) (M : List (List UInt8 × List UInt8)) (y : List UInt8 × List UInt8) (hs : a.eval s = .slice (some ⟨g, 0, none⟩) k cap) (hM : M.length = k) (hO : OwnEnts w g e cap M) (hk : k < cap) (ad : Addr) (c : Nat) (hx : a.eval x = .slice (some ad) 1 c)
    (v1 v2 : Value) (hc0 : w.cell? ad = some v1) (hc1 : w.cell? (ad.add 1) = some v2) (hb1 : BytesAt w v1 y.1) (hb2 : BytesAt w v2 y.2)
    (hK : ∀ w', OwnEnts w' g e cap (M ++ [y]) → w.grownBy w' (some g) → w'.heap.size = w.heap.size → K (a.put o.dst (.slice (some ⟨g, 0, none⟩) (k + 1) cap)) w') :
    if Region.wanted o (yielded ops a.tmps) = true then Oper.wp P o a w K Q else E := by
  have hw : Region.wanted o (yielded ops a.tmps) = true := by simp [Region.wanted, hg]
  rw [if_pos hw]
  obtain ⟨w', hrun, r1, r2, r3⟩ := run_append_ent (P := P) w t o.type e i h1 h2 h4 g k cap M y hM hO hk ad c v1 v2 hc0 hc1 hb1 hb2
  unfold Oper.wp
  simp [execOp, hop, resolve, invoke, builtin, hs, hx, hrun, Result.andThen]
  exact hK w' r1 r2 r3
/-- 'make([]T, 0, n)', the size as it stands -/
theorem wpList_make_room_at {P : Program} (w : World) {ops : Array Oper} {rest : List Oper} {o : Oper} {a : Act} {Q : Exit → Act → World → Prop}
    (hg : o.guard = none) (l c : Operand) (t : TypeId) (hop : o.op = Op.makeSlice t l c)
    (e : TypeId) (z : Value) (size bytes : Nat) (h1 : P.underlying t = some (.slice e)) (hinfo : (P.info? e).map (fun i => (i.zero, i.size, i.bytes)) = some (some z, size, bytes))
    (kl kc : IntKind) (n : Nat) (N : Int) (hN : N = (n : Int)) (hl : a.eval l = .int kl 0) (hc : a.eval c = .int kc N) (b2 : bytes * n ≤ 281474976710656) (b3 : n ≤ 9223372036854775807)
    (hK : ∀ w', w'.rowIs w.heap.size e (n * size) (fun j => z.cells[j % z.cells.size]!) → Below w.heap.size w w' → w'.heap.size = w.heap.size + 1 → wpList P ops Q rest (a.put o.dst (.slice (some ⟨w.heap.size, 0, none⟩) 0 n)) w') :
    wpList P ops Q (o :: rest) a w := by
  subst hN
  exact wpList_make_room w hg l c t hop e z size bytes h1 hinfo kl kc n hl hc b2 b3 hK

def lenV : Value → Nat
  | .slice _ n _ => n
  | _ => 0

/-- the head of a slice of entries, and what is left behind it -/
theorem EntsAt.cons {w : World} {v : Value} {e : List UInt8 × List UInt8} {E : List (List UInt8 × List UInt8)} (h : EntsAt w v (e :: E)) :
    ∃ b off c v1 v2 A, v = .slice (some ⟨b, off, none⟩) (E.length + 1) c ∧ E.length + 1 ≤ c ∧ c ≤ 9223372036854775807 ∧ w.cell? ⟨b, off, none⟩ = some v1 ∧ w.cell? ⟨b, off + 1, none⟩ = some v2 ∧ BytesAt w v1 e.1 ∧ BytesAt w v2 e.2 ∧
      (if c = 1 then some (⟨b, off, none⟩ : Addr) else some ⟨b, off + 2, none⟩) = some A ∧ EntsAt w (.slice (some A) E.length (c - 1)) E := by
  obtain ⟨a, c, rfl, hl, hm, h⟩ := h
  rcases h with h | ⟨b, off, rfl, h⟩
  · cases h
  obtain ⟨v1, v2, h1, h2, h3, h4⟩ := h 0 e rfl
  simp only [Nat.zero_mul, Nat.add_zero] at h1 h2
  simp only [List.length_cons] at hl
  refine ⟨b, off, c, v1, v2, if c = 1 then ⟨b, off, none⟩ else ⟨b, off + 2, none⟩, rfl, hl, hm, h1, h2, h3, h4, by split <;> rfl, ?_⟩
  refine ⟨_, _, rfl, by omega, by omega, ?_⟩
  by_cases hc : c = 1
  · left
    exact List.length_eq_zero_iff.1 (by omega)
  · right
    refine ⟨b, off + 2, by rw [if_neg hc], fun j e' he' => ?_⟩
    obtain ⟨u1, u2, k1, k2, k3, k4⟩ := h (j + 1) e' (by simpa using he')
    exact ⟨u1, u2, by rw [← k1]; congr 2; omega, by rw [← k2]; congr 2; omega, k3, k4⟩
theorem ChgsAt.cons {w : World} {v : Value} {e : List UInt8 × List UInt8 × Bool} {E : List (List UInt8 × List UInt8 × Bool)} (h : ChgsAt w v (e :: E)) :
    ∃ b off c v1 v2 A, v = .slice (some ⟨b, off, none⟩) (E.length + 1) c ∧ E.length + 1 ≤ c ∧ c ≤ 9223372036854775807 ∧ w.cell? ⟨b, off, none⟩ = some v1 ∧ w.cell? ⟨b, off + 1, none⟩ = some v2 ∧ w.cell? ⟨b, off + 2, none⟩ = some (.bool e.2.2) ∧ BytesAt w v1 e.1 ∧ BytesAt w v2 e.2.1 ∧
      (if c = 1 then some (⟨b, off, none⟩ : Addr) else some ⟨b, off + 3, none⟩) = some A ∧ ChgsAt w (.slice (some A) E.length (c - 1)) E := by
  obtain ⟨a, c, rfl, hl, hm, h⟩ := h
  rcases h with h | ⟨b, off, rfl, h⟩
  · cases h
  obtain ⟨v1, v2, h1, h2, h0, h3, h4⟩ := h 0 e rfl
  simp only [Nat.zero_mul, Nat.add_zero] at h1 h2 h0
  simp only [List.length_cons] at hl
  refine ⟨b, off, c, v1, v2, if c = 1 then ⟨b, off, none⟩ else ⟨b, off + 3, none⟩, rfl, hl, hm, h1, h2, h0, h3, h4, by split <;> rfl, ?_⟩
  refine ⟨_, _, rfl, by omega, by omega, ?_⟩
  by_cases hc : c = 1
  · left
    exact List.length_eq_zero_iff.1 (by omega)
  · right
    refine ⟨b, off + 3, by rw [if_neg hc], fun j e' he' => ?_⟩
    obtain ⟨u1, u2, k1, k2, k0, k3, k4⟩ := h (j + 1) e' (by simpa using he')
    exact ⟨u1, u2, by rw [← k1]; congr 2; omega, by rw [← k2]; congr 2; omega, by rw [← k0]; congr 2; omega, k3, k4⟩
theorem EntsAt.none {w : World} {v : Value} (h : EntsAt w v []) : ∃ a c, v = .slice a 0 c := by
  obtain ⟨a, c, rfl, _⟩ := h
  exact ⟨a, c, rfl⟩
theorem ChgsAt.none {w : World} {v : Value} (h : ChgsAt w v []) : ∃ a c, v = .slice a 0 c := by
  obtain ⟨a, c, rfl, _⟩ := h
  exact ⟨a, c, rfl⟩

set_option maxHeartbeats 2000000 in
theorem merge_any (ve vc : Value) (E : List (List UInt8 × List UInt8)) (C : List (List UInt8 × List UInt8 × Bool)) (w : World) (hsE : E.length ≤ 65536) (hsC : C.length ≤ 65536) (he : EntsAt w ve E) (hc : ChgsAt w vc C) :
    Calls Try.prog 31 #[ve, vc] w fun e w' => ∃ v', e = .returned v' ∧ EntsAt w' v' (mergeL E C) ∧ (mergeL E C).length ≤ 131072 ∧ Below w.heap.size w w' := by
  obtain ⟨i0, hi0, hz00, hz01, hz02⟩ := info_parts Try.info60
  have HE := hide he
  have HC := hide hc
  obtain ⟨a, ca, rfl, hla, hma, _⟩ := he
  obtain ⟨b, cb, rfl, hlb, hmb, _⟩ := hc
  obtain ⟨n, hn⟩ : ∃ n, n = E.length := ⟨_, rfl⟩
  obtain ⟨m, hm⟩ : ∃ m, m = C.length := ⟨_, rfl⟩
  rw [← hn] at hla hsE HE ⊢
  rw [← hm] at hlb hsC HC ⊢
  have Hn := hide hn
  have Hm := hide hm
  clear hn hm
  go_enter Try.func31, Try.ntmps31
  go_wp2_with (refine wpList_make_room_at _ rfl _ _ 58 rfl 60 (.agg #[.slice none 0 0, .slice none 0 0]) 2 48 Try.underlying58 Try.info60 .i64 .i64 (n + m) _ ?_ rfl rfl (by omega) (by omega) ?_)
  · omega
  intro w1 hrow hb1 hsz1
  have hO := OwnEnts.start (w := w1) (B := w.heap.size) (t := 60) (n := n + m) hrow (fun j x => zero2 j x)
  clear hrow
  go_wp2
  go_loopw [0, 1, 5] (fun ve vc vm wr => ∃ E1 C1 M, EntsAt w ve E1 ∧ ChgsAt w vc C1 ∧ vm = .slice (some ⟨w.heap.size, 0, none⟩) M.length (n + m) ∧ OwnEnts wr w.heap.size 60 (n + m) M ∧ Below w.heap.size w wr ∧ M.length + E1.length + C1.length ≤ n + m ∧ Hid (mergeL E C = M ++ mergeL E1 C1)) (fun ve vc _ _ => lenV ve + lenV vc)
  case atStart => exact ⟨E, C, [], unhide HE, unhide HC, rfl, hO, hb1, by have := unhide Hn; have := unhide Hm; simp; omega, by simp [Hid]⟩
  case round =>
    obtain ⟨E1, C1, M, hE, hC, rfl, hOM, hbM, hlen, HM⟩ := hrel
    clear hO hb1 hsz1 HE HC
    cases E1 with
    | nil =>
      obtain ⟨a1, c1, rfl⟩ := hE.none
      cases C1 with
      | nil =>
        obtain ⟨a2, c2, rfl⟩ := hC.none
        have hM : mergeL E C = M := by rw [unhide HM, mergeL_nil]; simp
        have hF := hOM.ents (c := n + m) (by (try simp only [List.length_cons, List.length_nil] at hlen); omega) (by omega)
        rw [← hM] at hF
        have HF := hide hF
        have HL := hide (show (mergeL E C).length ≤ 131072 by rw [hM]; simp at hlen; omega)
        rw [← hM]
        clear hF hM HM hOM
        go_wp2
        go_ret
        exact ⟨_, rfl, unhide HF, unhide HL, hbM⟩
      | cons d C2 =>
        obtain ⟨bc, oc, cc, d1, d2, A2, rfl, hcc, hccm, j1, j2, j3, hD1, hD2, hA2, hC2⟩ := hC.cons
        have k4 := cell_below hbM j1
        have k5 := cell_below hbM j2
        have k3 := cell_below hbM j3
        have hl3 : ((C2.length : Int) + 1 == 0) = false := by simp; omega
        have hp4 : (0 : Int) < (C2.length : Int) + 1 := by omega
        clear j1 j2 j3 hC
        cases hdel : d.2.2 with
        | true =>
          rw [hdel] at k3
          have HN := hide (show mergeL E C = M ++ mergeL [] C2 by rw [unhide HM, mergeL_right]; simp [ins, hdel])
          clear hdel HM
          have hp3 : (1 : Int) ≤ (C2.length : Int) + 1 := by omega
          go_wp2
          go_roundw
          case rel => exact ⟨[], C2, M, hE, hC2, rfl, hOM, hbM, by (try simp only [List.length_cons, List.length_nil] at hlen); (try simp only [List.length_append, List.length_cons, List.length_nil]); omega, HN⟩
          case measure => simp [lenV]; try omega
        | false =>
          rw [hdel] at k3
          have HN := hide (show mergeL E C = (M ++ [(d.1, d.2.1)]) ++ mergeL [] C2 by rw [unhide HM, mergeL_right]; simp [ins, hdel])
          obtain ⟨p1, q1, rfl, _⟩ := id hD1
          obtain ⟨p2, q2, rfl, _⟩ := id hD2
          have hba : Below wr.heap.size wr (wr.alloc (Obj.cells #[Value.slice p1 d.1.length q1, Value.slice p2 d.2.1.length q2] 60)).drew := ((Below.refl _ _).alloc (Nat.le_refl _) _).drew
          have H0 := hide (show (wr.alloc (Obj.cells #[Value.slice p1 d.1.length q1, Value.slice p2 d.2.1.length q2] 60)).drew.cell? ⟨wr.heap.size, 0, none⟩ = some (Value.slice p1 d.1.length q1) by simp [go_sem])
          have H1 := hide (show (wr.alloc (Obj.cells #[Value.slice p1 d.1.length q1, Value.slice p2 d.2.1.length q2] 60)).drew.cell? (Addr.add ⟨wr.heap.size, 0, none⟩ 1) = some (Value.slice p2 d.2.1.length q2) by simp [go_sem, Addr.add])
          have H2 := hide ((hD1.below hbM).below hba)
          have H3 := hide ((hD2.below hbM).below hba)
          have H4 := hide (hOM.below hba)
          have hp3 : (1 : Int) ≤ (C2.length : Int) + 1 := by omega
          have hp4 : (0 : Int) < (C2.length : Int) + 1 := by omega
          clear hdel HM hD1 hD2 hOM
          go_wp2_with fail
          go_region_law (refine step_append_ent rfl (.tmp 59) (.tmp 69) 58 rfl 60 i0 Try.underlying58 hi0 hz01 w.heap.size M.length (n + m) M (d.1, d.2.1) (by simp [Act.eval]) rfl (unhide H4) (by (try simp only [List.length_cons, List.length_nil] at hlen); omega) ⟨wr.heap.size, 0, none⟩ 1 (by simp [Act.eval]) _ _ (unhide H0) (unhide H1) (unhide H2) (unhide H3) ?_; intro w2 hO2 hg2 hz2)
          all_goals simp only [Act.put, List.getElem_toArray, List.getElem_cons_succ, List.getElem_cons_zero, List.setIfInBounds_toArray, List.set_cons_succ, List.set_cons_zero]
          all_goals
            have hbe : Below w.heap.size w w2 := hbM.trans ((hba.mono hbM.size).trans (below_grown hg2 (by have := hbM.size; simp; omega)))
            clear hba hg2 H0 H1 H2 H3 H4
            go_wp2
            go_roundw
            case rel => exact ⟨[], C2, M ++ [(d.1, d.2.1)], hE, hC2, by simp, hO2, hbe, by (try simp only [List.length_cons, List.length_nil] at hlen); (try simp only [List.length_append, List.length_cons, List.length_nil]); omega, HN⟩
            case measure => simp [lenV]; try omega
    | cons e E2 =>
      obtain ⟨be, oe, ce, v1, v2, A, rfl, hce, hcm, g1, g2, hB1, hB2, hA, hE2⟩ := hE.cons
      have k1 := cell_below hbM g1
      have k2 := cell_below hbM g2
      cases C1 with
      | nil =>
        obtain ⟨a2, c2, rfl⟩ := hC.none
        have hlt : ((E2.length : Int) + 1 == 0) = false := by simp; omega
        simp only [List.length_cons, List.length_nil] at hlen
        clear g1 g2
        obtain ⟨p1, q1, rfl, _⟩ := id hB1
        obtain ⟨p2, q2, rfl, _⟩ := id hB2
        have hba : Below wr.heap.size wr (wr.alloc (Obj.cells #[Value.slice p1 e.1.length q1, Value.slice p2 e.2.length q2] 60)).drew := ((Below.refl _ _).alloc (Nat.le_refl _) _).drew
        have H0 := hide (show (wr.alloc (Obj.cells #[Value.slice p1 e.1.length q1, Value.slice p2 e.2.length q2] 60)).drew.cell? ⟨wr.heap.size, 0, none⟩ = some (Value.slice p1 e.1.length q1) by simp [go_sem])
        have H1 := hide (show (wr.alloc (Obj.cells #[Value.slice p1 e.1.length q1, Value.slice p2 e.2.length q2] 60)).drew.cell? (Addr.add ⟨wr.heap.size, 0, none⟩ 1) = some (Value.slice p2 e.2.length q2) by simp [go_sem, Addr.add])
        have H2 := hide ((hB1.below hbM).below hba)
        have H3 := hide ((hB2.below hbM).below hba)
        have H4 := hide (hOM.below hba)
        have HN := hide (show mergeL E C = (M ++ [e]) ++ mergeL E2 [] by rw [unhide HM, mergeL_left]; simp)
        have hp2 : (1 : Int) ≤ (E2.length : Int) + 1 := by omega
        clear hB1 hB2 hOM HM
        go_wp2_with fail
        go_region_law (refine step_append_ent rfl (.tmp 41) (.tmp 45) 58 rfl 60 i0 Try.underlying58 hi0 hz01 w.heap.size M.length (n + m) M e (by simp [Act.eval]) rfl (unhide H4) (by omega) ⟨wr.heap.size, 0, none⟩ 1 (by simp [Act.eval]) _ _ (unhide H0) (unhide H1) (unhide H2) (unhide H3) ?_; intro w2 hO2 hg2 hz2)
        all_goals simp only [Act.put, List.getElem_toArray, List.getElem_cons_succ, List.getElem_cons_zero, List.setIfInBounds_toArray, List.set_cons_succ, List.set_cons_zero]
        all_goals
          have hbe : Below w.heap.size w w2 := hbM.trans ((hba.mono hbM.size).trans (below_grown hg2 (by have := hbM.size; simp; omega)))
          clear hba hg2 H0 H1 H2 H3 H4
          go_wp2
          go_roundw
          case rel => exact ⟨E2, [], M ++ [e], hE2, hC, by simp, hO2, hbe, by (try simp only [List.length_cons, List.length_nil] at hlen); (try simp only [List.length_append, List.length_cons, List.length_nil]); omega, HN⟩
          case measure => simp [lenV]; try omega
      | cons d C2 =>
        obtain ⟨bc, oc, cc, d1, d2, A2, rfl, hcc, hccm, j1, j2, j3, hD1, hD2, hA2, hC2⟩ := hC.cons
        simp only [List.length_cons] at hlen
        have k4 := cell_below hbM j1
        have k5 := cell_below hbM j2
        have k3 := cell_below hbM j3
        clear g1 g2 j1 j2 j3
        have H5 := hide (fun q => compare_any v1 d1 e.1 d.1 (wr.drewN q) ((hB1.below hbM).below (below_drewN (Below.refl _ _) q)) ((hD1.below hbM).below (below_drewN (Below.refl _ _) q)))
        obtain ⟨p1, q1, hv1, _⟩ := id hB1
        obtain ⟨p3, q3, hv3, _⟩ := id hD1
        obtain ⟨R, hR⟩ : ∃ R, R = Lib.compareBytes e.1 d.1 := ⟨_, rfl⟩
        rw [← hR] at H5
        have HR := hide hR
        clear hR
        have hl1 : (0 : Int) < (E2.length : Int) + 1 := by omega
        have hl2 : (0 : Int) < (C2.length : Int) + 1 := by omega
        have hl3 : ((C2.length : Int) + 1 == 0) = false := by simp; omega
        have hl4 : ((E2.length : Int) + 1 == 0) = false := by simp; omega
        rcases (show R < 0 ∨ R = 0 ∨ 0 < R by omega) with hR0 | hR0 | hR0
        · have HX := hide (show Lib.compareBytes e.1 d.1 < 0 by rw [← unhide HR]; exact hR0)
          subst hv1
          subst hv3
          go_wp2
          go_quiet ((go_at_call 35; exact Calls.quiet_of_same (unhide H5 _)))
          obtain ⟨wq, hwq⟩ : ∃ wq, wq = wr.drewN nq := ⟨_, rfl⟩
          have hbq : Below wr.heap.size wr wq := by rw [hwq]; exact below_drewN (Below.refl _ _) _
          rw [← hwq]
          clear hwq H5
          replace hOM := hOM.below hbq
          replace k1 := cell_below hbq k1
          replace k2 := cell_below hbq k2
          replace k4 := cell_below hbq k4
          replace k5 := cell_below hbq k5
          replace k3 := cell_below hbq k3
          replace hbM := hbM.trans (hbq.mono hbM.size)
          clear hbq
          obtain ⟨p2, q2, rfl, _⟩ := id hB2
          have hba : Below wq.heap.size wq (wq.alloc (Obj.cells #[Value.slice p1 e.1.length q1, Value.slice p2 e.2.length q2] 60)).drew := ((Below.refl _ _).alloc (Nat.le_refl _) _).drew
          have H0 := hide (show (wq.alloc (Obj.cells #[Value.slice p1 e.1.length q1, Value.slice p2 e.2.length q2] 60)).drew.cell? ⟨wq.heap.size, 0, none⟩ = some (Value.slice p1 e.1.length q1) by simp [go_sem])
          have H1 := hide (show (wq.alloc (Obj.cells #[Value.slice p1 e.1.length q1, Value.slice p2 e.2.length q2] 60)).drew.cell? (Addr.add ⟨wq.heap.size, 0, none⟩ 1) = some (Value.slice p2 e.2.length q2) by simp [go_sem, Addr.add])
          have H2 := hide ((hB1.below hbM).below hba)
          have H3 := hide ((hB2.below hbM).below hba)
          have H4 := hide (hOM.below hba)
          have HN := hide (show mergeL E C = (M ++ [e]) ++ mergeL E2 (d :: C2) by rw [unhide HM, mergeL_lt (unhide HX)]; simp)
          have hp2 : (1 : Int) ≤ (E2.length : Int) + 1 := by omega
          clear hB1 hB2 hOM HM
          go_wp2_with fail
          go_region_law (refine step_append_ent rfl (.tmp 41) (.tmp 45) 58 rfl 60 i0 Try.underlying58 hi0 hz01 w.heap.size M.length (n + m) M e (by simp [Act.eval]) rfl (unhide H4) (by omega) ⟨wq.heap.size, 0, none⟩ 1 (by simp [Act.eval]) _ _ (unhide H0) (unhide H1) (unhide H2) (unhide H3) ?_; intro w2 hO2 hg2 hz2)
          all_goals simp only [Act.put, List.getElem_toArray, List.getElem_cons_succ, List.getElem_cons_zero, List.setIfInBounds_toArray, List.set_cons_succ, List.set_cons_zero]
          all_goals
            have hbe : Below w.heap.size w w2 := hbM.trans ((hba.mono hbM.size).trans (below_grown hg2 (by have := hbM.size; simp; omega)))
            clear hba hg2 H0 H1 H2 H3 H4
            go_wp2
            go_roundw
            case rel => exact ⟨E2, (d :: C2), M ++ [e], hE2, hC, by simp, hO2, hbe, by (try simp only [List.length_cons, List.length_nil] at hlen); (try simp only [List.length_append, List.length_cons, List.length_nil]); omega, HN⟩
            case measure => simp [lenV]; try omega
        · have HX := hide (show Lib.compareBytes e.1 d.1 = 0 by rw [← unhide HR]; exact hR0)
          have hRb : (R == 0) = true := by simp [hR0]
          have hRn : ¬ R < 0 := by omega
          clear hR0
          subst hv1
          subst hv3
          go_wp2
          go_quiet ((go_at_call 35; exact Calls.quiet_of_same (unhide H5 _)))
          obtain ⟨wq, hwq⟩ : ∃ wq, wq = wr.drewN nq := ⟨_, rfl⟩
          have hbq : Below wr.heap.size wr wq := by rw [hwq]; exact below_drewN (Below.refl _ _) _
          rw [← hwq]
          clear hwq H5
          replace hOM := hOM.below hbq
          replace k1 := cell_below hbq k1
          replace k2 := cell_below hbq k2
          replace k4 := cell_below hbq k4
          replace k5 := cell_below hbq k5
          replace k3 := cell_below hbq k3
          replace hbM := hbM.trans (hbq.mono hbM.size)
          clear hbq
          cases hdel : d.2.2 with
          | true =>
            rw [hdel] at k3
            have HN := hide (show mergeL E C = M ++ mergeL E2 C2 by rw [unhide HM, mergeL_eq (unhide HX)]; simp [ins, hdel])
            clear hdel HM
            have hp3 : (1 : Int) ≤ (C2.length : Int) + 1 := by omega
            go_wp2
            go_roundw
            case rel => exact ⟨E2, C2, M, hE2, hC2, rfl, hOM, hbM, by (try simp only [List.length_cons, List.length_nil] at hlen); (try simp only [List.length_append, List.length_cons, List.length_nil]); omega, HN⟩
            case measure => simp [lenV]; try omega
          | false =>
            rw [hdel] at k3
            have HN := hide (show mergeL E C = (M ++ [(d.1, d.2.1)]) ++ mergeL E2 C2 by rw [unhide HM, mergeL_eq (unhide HX)]; simp [ins, hdel])
            obtain ⟨p2, q2, rfl, _⟩ := id hD2
            have hba : Below wq.heap.size wq (wq.alloc (Obj.cells #[Value.slice p3 d.1.length q3, Value.slice p2 d.2.1.length q2] 60)).drew := ((Below.refl _ _).alloc (Nat.le_refl _) _).drew
            have H0 := hide (show (wq.alloc (Obj.cells #[Value.slice p3 d.1.length q3, Value.slice p2 d.2.1.length q2] 60)).drew.cell? ⟨wq.heap.size, 0, none⟩ = some (Value.slice p3 d.1.length q3) by simp [go_sem])
            have H1 := hide (show (wq.alloc (Obj.cells #[Value.slice p3 d.1.length q3, Value.slice p2 d.2.1.length q2] 60)).drew.cell? (Addr.add ⟨wq.heap.size, 0, none⟩ 1) = some (Value.slice p2 d.2.1.length q2) by simp [go_sem, Addr.add])
            have H2 := hide ((hD1.below hbM).below hba)
            have H3 := hide ((hD2.below hbM).below hba)
            have H4 := hide (hOM.below hba)
            have hp3 : (1 : Int) ≤ (C2.length : Int) + 1 := by omega
            have hp4 : (0 : Int) < (C2.length : Int) + 1 := by omega
            clear hdel HM hD1 hD2 hOM
            go_wp2_with fail
            go_region_law (refine step_append_ent rfl (.tmp 59) (.tmp 69) 58 rfl 60 i0 Try.underlying58 hi0 hz01 w.heap.size M.length (n + m) M (d.1, d.2.1) (by simp [Act.eval]) rfl (unhide H4) (by (try simp only [List.length_cons, List.length_nil] at hlen); omega) ⟨wq.heap.size, 0, none⟩ 1 (by simp [Act.eval]) _ _ (unhide H0) (unhide H1) (unhide H2) (unhide H3) ?_; intro w2 hO2 hg2 hz2)
            all_goals simp only [Act.put, List.getElem_toArray, List.getElem_cons_succ, List.getElem_cons_zero, List.setIfInBounds_toArray, List.set_cons_succ, List.set_cons_zero]
            all_goals
              have hbe : Below w.heap.size w w2 := hbM.trans ((hba.mono hbM.size).trans (below_grown hg2 (by have := hbM.size; simp; omega)))
              clear hba hg2 H0 H1 H2 H3 H4
              go_wp2
              go_roundw
              case rel => exact ⟨E2, C2, M ++ [(d.1, d.2.1)], hE2, hC2, by simp, hO2, hbe, by (try simp only [List.length_cons, List.length_nil] at hlen); (try simp only [List.length_append, List.length_cons, List.length_nil]); omega, HN⟩
              case measure => simp [lenV]; try omega
        · have HX := hide (show 0 < Lib.compareBytes e.1 d.1 by rw [← unhide HR]; exact hR0)
          have hRb : (R == 0) = false := by simp; omega
          have hRn : ¬ R < 0 := by omega
          subst hv1
          subst hv3
          go_wp2
          go_quiet ((go_at_call 35; exact Calls.quiet_of_same (unhide H5 _)))
          obtain ⟨wq, hwq⟩ : ∃ wq, wq = wr.drewN nq := ⟨_, rfl⟩
          have hbq : Below wr.heap.size wr wq := by rw [hwq]; exact below_drewN (Below.refl _ _) _
          rw [← hwq]
          clear hwq H5
          replace hOM := hOM.below hbq
          replace k1 := cell_below hbq k1
          replace k2 := cell_below hbq k2
          replace k4 := cell_below hbq k4
          replace k5 := cell_below hbq k5
          replace k3 := cell_below hbq k3
          replace hbM := hbM.trans (hbq.mono hbM.size)
          clear hbq
          cases hdel : d.2.2 with
          | true =>
            rw [hdel] at k3
            have HN := hide (show mergeL E C = M ++ mergeL (e :: E2) C2 by rw [unhide HM, mergeL_gt (unhide HX)]; simp [ins, hdel])
            clear hdel HM
            have hp3 : (1 : Int) ≤ (C2.length : Int) + 1 := by omega
            go_wp2
            go_roundw
            case rel => exact ⟨(e :: E2), C2, M, hE, hC2, rfl, hOM, hbM, by (try simp only [List.length_cons, List.length_nil] at hlen); (try simp only [List.length_append, List.length_cons, List.length_nil]); omega, HN⟩
            case measure => simp [lenV]; try omega
          | false =>
            rw [hdel] at k3
            have HN := hide (show mergeL E C = (M ++ [(d.1, d.2.1)]) ++ mergeL (e :: E2) C2 by rw [unhide HM, mergeL_gt (unhide HX)]; simp [ins, hdel])
            obtain ⟨p2, q2, rfl, _⟩ := id hD2
            have hba : Below wq.heap.size wq (wq.alloc (Obj.cells #[Value.slice p3 d.1.length q3, Value.slice p2 d.2.1.length q2] 60)).drew := ((Below.refl _ _).alloc (Nat.le_refl _) _).drew
            have H0 := hide (show (wq.alloc (Obj.cells #[Value.slice p3 d.1.length q3, Value.slice p2 d.2.1.length q2] 60)).drew.cell? ⟨wq.heap.size, 0, none⟩ = some (Value.slice p3 d.1.length q3) by simp [go_sem])
            have H1 := hide (show (wq.alloc (Obj.cells #[Value.slice p3 d.1.length q3, Value.slice p2 d.2.1.length q2] 60)).drew.cell? (Addr.add ⟨wq.heap.size, 0, none⟩ 1) = some (Value.slice p2 d.2.1.length q2) by simp [go_sem, Addr.add])
            have H2 := hide ((hD1.below hbM).below hba)
            have H3 := hide ((hD2.below hbM).below hba)
            have H4 := hide (hOM.below hba)
            have hp3 : (1 : Int) ≤ (C2.length : Int) + 1 := by omega
            have hp4 : (0 : Int) < (C2.length : Int) + 1 := by omega
            clear hdel HM hD1 hD2 hOM
            go_wp2_with fail
            go_region_law (refine step_append_ent rfl (.tmp 59) (.tmp 69) 58 rfl 60 i0 Try.underlying58 hi0 hz01 w.heap.size M.length (n + m) M (d.1, d.2.1) (by simp [Act.eval]) rfl (unhide H4) (by (try simp only [List.length_cons, List.length_nil] at hlen); omega) ⟨wq.heap.size, 0, none⟩ 1 (by simp [Act.eval]) _ _ (unhide H0) (unhide H1) (unhide H2) (unhide H3) ?_; intro w2 hO2 hg2 hz2)
            all_goals simp only [Act.put, List.getElem_toArray, List.getElem_cons_succ, List.getElem_cons_zero, List.setIfInBounds_toArray, List.set_cons_succ, List.set_cons_zero]
            all_goals
              have hbe : Below w.heap.size w w2 := hbM.trans ((hba.mono hbM.size).trans (below_grown hg2 (by have := hbM.size; simp; omega)))
              clear hba hg2 H0 H1 H2 H3 H4
              go_wp2
              go_roundw
              case rel => exact ⟨(e :: E2), C2, M ++ [(d.1, d.2.1)], hE, hC2, by simp, hO2, hbe, by (try simp only [List.length_cons, List.length_nil] at hlen); (try simp only [List.length_append, List.length_cons, List.length_nil]); omega, HN⟩
              case measure => simp [lenV]; try omega
end Go.Proofs.Qxb6602657a
