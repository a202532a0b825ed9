/-
  THE WALK of 'FnMergeLeavesJustTheMapThatTheChangesMake' (3).
-/
import Derived.Test.Qxb6602657aMergeD
namespace Go.Proofs.Qxb6602657a.fnMergeLeavesJustTheMapThatTheChangesMake
open Go.RowKit
set_option linter.unusedVariables false
set_option linter.unusedSimpArgs false

theorem ascE {E : List (List UInt8 × List UInt8)} (h : AscE E) : Asc (E.map (·.1)) := by
  refine asc_of_steps _ fun j a b ha hb => ?_
  rw [List.getElem?_map, Option.map_eq_some_iff] at ha hb
  obtain ⟨x, hx, rfl⟩ := ha
  obtain ⟨y, hy, rfl⟩ := hb
  exact h j x y hx hy
theorem ascC {C : List (List UInt8 × List UInt8 × Bool)} (h : AscC C) : Asc (C.map (·.1)) := by
  refine asc_of_steps _ fun j a b ha hb => ?_
  rw [List.getElem?_map, Option.map_eq_some_iff] at ha hb
  obtain ⟨x, hx, rfl⟩ := ha
  obtain ⟨y, hy, rfl⟩ := hb
  exact h j x y hx hy
theorem count_step {α : Type} (p : α → Bool) (l : List α) (k : Nat) (x : α) (h : l[k]? = some x) : ((l.take (k + 1)).filter p).length = ((l.take k).filter p).length + if p x then 1 else 0 := by
  rw [take_snoc l k x h, List.filter_append, List.length_append]
  cases hp : p x <;> simp [hp]
theorem count_le {α : Type} (p : α → Bool) (l : List α) (k : Nat) : ((l.take k).filter p).length ≤ k :=
  Nat.le_trans (List.length_filter_le _ _) (by simp; omega)

set_option maxHeartbeats 4000000 in
theorem walk (ve vc : Value) (E : List (List UInt8 × List UInt8)) (C : List (List UInt8 × List UInt8 × Bool)) (w : World) (he : EntsAt w ve E) (hc : ChgsAt w vc C) :
    Calls Try.prog 3 #[ve, vc] w fun e w' => e = .returned (.bool true) ∧ Below w.heap.size w w' := by
  have H9 := hide (bytes9_any ve vc E C w he hc)
  have H10 := hide (small_any ve vc E C w he hc)
  have H11 := hide (asc_any ve vc E C w he hc)
  have HE := hide he
  have HC := hide hc
  obtain ⟨a, c, rfl, hlc, hm, _⟩ := he
  obtain ⟨b, d, rfl, hld, hmd, _⟩ := hc
  go_enter Try.func3, Try.ntmps3
  go_wp2_with fail
  refine (unhide H9).mono ?_
  rintro e w1 ⟨⟨r, rfl⟩, hw⟩
  rw [hw]
  clear hw w1 H9
  cases r
  · go_wp2
    go_ret
    exact ⟨rfl, Below.refl _ _⟩
  go_wp2_with fail
  refine (unhide H10).mono ?_
  rintro e w1 ⟨⟨r, rfl, hr⟩, hw⟩
  rw [hw]
  clear hw w1 H10
  cases r
  · clear hr
    go_wp2
    go_ret
    exact ⟨rfl, Below.refl _ _⟩
  obtain ⟨hsE, hsC, hSE, hSC⟩ := hr rfl
  have HSE := hide hSE
  have HSC := hide hSC
  clear hr hSE hSC
  go_wp2_with fail
  refine (unhide H11).mono ?_
  rintro e w3 ⟨⟨r, rfl, hr⟩, hD⟩
  clear H11
  cases r
  · clear hr
    go_wp2
    go_ret
    exact ⟨rfl, hD.below⟩
  obtain ⟨hAE0, hAC0⟩ := hr rfl
  have HAE := hide (ascE hAE0)
  have HAC := hide (ascC hAC0)
  clear hr hAE0 hAC0
  have H12 := hide (clonee_any _ E w3 hsE (unhide HSE) ((unhide HE).below hD.below))
  go_wp2_with fail
  refine (unhide H12).mono ?_
  rintro e w4 ⟨v1, rfl, hV1, hb4⟩
  have hB4 := hD.below.trans (hb4.mono hD.below.size)
  have H13 := hide (clonec_any _ C w4 hsC (unhide HSC) ((unhide HC).below hB4))
  have HV1 := hide hV1
  obtain ⟨a1, c1, rfl, hlc1, hm1, _⟩ := hV1
  clear H12 HE HSE
  go_wp2_with fail
  refine (unhide H13).mono ?_
  rintro e w5 ⟨v2, rfl, hV2, hb5⟩
  have hB5 := hB4.trans (hb5.mono hB4.size)
  have HV1 := hide ((unhide HV1).below hb5)
  have HV2 := hide hV2
  obtain ⟨a2, c2, rfl, hlc2, hm2, _⟩ := hV2
  have H15 := hide (toe_any _ E w5 hsE (unhide HV1))
  clear H13 HC HSC hb4 hb5 hB4 hD
  go_wp2_with fail
  refine (unhide H15).mono ?_
  rintro e w6 ⟨v3, rfl, hV3, hb6⟩
  have hB6 := hB5.trans (hb6.mono hB5.size)
  have H16 := hide (toc_any _ C w6 hsC ((unhide HV2).below hb6))
  have HV3 := hide hV3
  obtain ⟨a3, c3, rfl, hlc3, hm3, _⟩ := hV3
  clear H15
  go_wp2_with fail
  refine (unhide H16).mono ?_
  rintro e w7 ⟨v4, rfl, hV4, hb7⟩
  have hB7 := hB6.trans (hb7.mono hB6.size)
  have H14 := hide (zzmerge_any _ _ E C w7 hsE hsC ((unhide HV3).below hb7) hV4)
  have hb57 := hb6.trans (hb7.mono hb6.size)
  obtain ⟨a4, c4, rfl, hlc4, hm4, _⟩ := hV4
  clear H16 HV3 hb6 hb7 hB5 hB6
  go_wp2_with fail
  refine (unhide H14).mono ?_
  rintro e w8 ⟨v5, rfl, hV5, hG0, hb8⟩
  have hB8 := hB7.trans (hb8.mono hB7.size)
  have HV1 := hide ((unhide HV1).below (hb57.trans (hb8.mono hb57.size)))
  have HV2 := hide ((unhide HV2).below (hb57.trans (hb8.mono hb57.size)))
  have HV5 := hide hV5
  have HQ1 := hide (merge_asc E C (unhide HAE) (unhide HAC))
  have HQ2 := hide (fun (x : List UInt8 × List UInt8) (hx : x ∈ mergeL E C) (ok : Bool) (v : List UInt8) (hl : Look E C x.1 ok v) => merge_look (unhide HAE) (unhide HAC) hx hl)
  have HQ3 := hide (merge_count E C (unhide HAE) (unhide HAC))
  obtain ⟨G, hG⟩ : ∃ G, G = mergeL E C := ⟨_, rfl⟩
  rw [← hG] at HV5 HQ1 HQ2 HQ3 hG0 hV5
  clear hG H14 hb57 hb8 hB7
  obtain ⟨ag, cg, rfl, hlcg, hmg, hg⟩ := hV5
  obtain ⟨g, hgl⟩ : ∃ g, g = G.length := ⟨_, rfl⟩
  rw [← hgl] at hlcg HV5 hG0 HQ3 ⊢
  have Hg := hide hgl
  clear hgl
  go_wp2
  go_loopw [6] (fun j wr => ∃ k : Nat, (k ≤ g ∨ k = 1) ∧ 1 ≤ k ∧ j = .int .i64 k ∧ Drawn w8 wr) (fun j _ => g - (intOf j).toNat)
  case atStart => exact ⟨1, .inr rfl, Nat.le_refl _, rfl, Drawn.refl _⟩
  case round =>
    obtain ⟨k, hk, hk1, rfl, hD⟩ := hrel
    by_cases hlt : k < g
    · obtain ⟨i, rfl⟩ : ∃ i, k = i + 1 := ⟨k - 1, by omega⟩
      obtain ⟨x, hx⟩ := get_some G i (by rw [← unhide Hg]; omega)
      obtain ⟨y, hy⟩ := get_some G (i + 1) (by rw [← unhide Hg]; omega)
      rcases hg with h | ⟨b1, o1, rfl, hca⟩
      · exact absurd (unhide Hg) (by rw [h]; simp; omega)
      obtain ⟨u1, u2, g1, _, hB1, _⟩ := hca i x hx
      obtain ⟨u3, u4, g3, _, hB3, _⟩ := hca (i + 1) y hy
      have H1 := hide (fun q => cmp_any u1 u3 x.1 y.1 (wr.drewN q) ((hD.more q).bytes hB1) ((hD.more q).bytes hB3))
      have c5 := hD.cell g1
      have c6 := hD.cell g3
      obtain ⟨R, hR⟩ : ∃ R, R = Lib.compareBytes x.1 y.1 := ⟨_, rfl⟩
      have hR0 : R < 0 := by rw [hR]; exact (unhide HQ1).lt (i := i) (j := i + 1) (by simp [hx]) (by simp [hy]) (by omega)
      rw [← hR] at H1
      obtain ⟨p1, q1, rfl, _⟩ := hB1
      obtain ⟨p3, q3, rfl, _⟩ := hB3
      clear hca hx hy hR g1 g3
      have hwk : IntKind.i64.wrap (i : Int) = (i : Int) := by rw [IntKind.wrap_i64]; omega
      have h1' : (i : Int) + 1 < (g : Int) := by omega
      have hp0 : (0 : Int) ≤ (i : Int) + 1 := by omega
      have hp2 : ((i : Int) + 1).toNat = i + 1 := by omega
      have h2' : (i : Int) < (g : Int) := by omega
      have hd0 : decide (0 ≤ R) = false := by simp; omega
      go_wp2
      go_quiet ((go_at_call 17; exact Calls.quiet_of (unhide H1 _)))
      go_wp2
      go_roundw
      case rel => exact ⟨i + 1 + 1, by omega, by omega, by go_num, hD.more _⟩
      case measure => simp [intOf]; omega
    · go_wp2
      go_loopw [7] (fun j wr => ∃ k : Nat, k ≤ g ∧ j = .int .i64 k ∧ Drawn w8 wr) (fun j _ => g - (intOf j).toNat)
      case atStart => exact ⟨0, Nat.zero_le _, rfl, hD⟩
      case round =>
        clear hk hk1 hlt hD
        obtain ⟨k, hk, rfl, hD⟩ := hrel
        by_cases hlt : k < g
        · obtain ⟨x, hx⟩ := get_some G k (by rw [← unhide Hg]; omega)
          have hmem := List.mem_of_getElem? hx
          rcases hg with h | ⟨b1, o1, rfl, hca⟩
          · exact absurd (unhide Hg) (by rw [h]; simp; omega)
          obtain ⟨u1, u2, g1, g2, hB1, hB2⟩ := hca k x hx
          have c5 := hD.cell g1
          have c6 := hD.cell g2
          have H1 := hide (lookup_any _ _ u1 E C x.1 wr hsE hsC (unhide HAE) (unhide HAC) (hD.ents (unhide HV1)) (hD.chgs (unhide HV2)) (hD.bytes hB1))
          have HB2 := hide hB2
          have HMEM := hide hmem
          obtain ⟨p1, q1, rfl, _⟩ := hB1
          obtain ⟨p2, q2, rfl, _⟩ := hB2
          clear hca hx hmem g1 g2
          go_wp2_with fail
          refine (unhide H1).mono ?_
          rintro e w9 ⟨ok, v, a9, c9, rfl, hBv, hL, hD9⟩
          obtain ⟨hok, hv⟩ := unhide HQ2 x (unhide HMEM) ok v hL
          subst hok
          subst hv
          have hDD := hD.trans hD9
          have H2 := hide (cmp_any _ _ x.2 x.2 w9 hBv (hDD.bytes (unhide HB2)))
          rw [cmp_self] at H2
          have c7 := hD9.cell c6
          clear hL hBv H1 c5 c6 HMEM HB2
          go_wp2_with (go_at_call 17; refine (unhide H2).mono ?_; rintro e w10 ⟨rfl, hD10⟩)
          go_roundw
          case rel => exact ⟨k + 1, by omega, by go_num, hDD.trans hD10⟩
          case measure => simp [intOf]; omega
        · go_wp2
          go_loopw [10, 11] (fun z j wr => ∃ k : Nat, k ≤ E.length ∧ j = .int .i64 k ∧ z = .int .i64 ((((E.take k).filter (keeps C)).length : Nat) : Int) ∧ Drawn w8 wr) (fun _ j _ => E.length - (intOf j).toNat)
          case atStart => exact ⟨0, Nat.zero_le _, rfl, rfl, hD⟩
          case round =>
            clear hk hlt hD
            obtain ⟨k, hk, rfl, rfl, hD⟩ := hrel
            have hcl := count_le (keeps C) E k
            obtain ⟨N, hN⟩ : ∃ N, N = ((E.take k).filter (keeps C)).length := ⟨_, rfl⟩
            rw [← hN] at hcl ⊢
            by_cases hlt : k < E.length
            · obtain ⟨x, hx⟩ := get_some E k hlt
              have hmem := List.mem_of_getElem? hx
              have hstep := count_step (keeps C) E k x hx
              rw [← hN] at hstep
              obtain ⟨a1', c1', hae, _, _, hcases⟩ := id (unhide HV1)
              simp only [Value.slice.injEq, true_and] at hae
              obtain ⟨rfl, rfl⟩ := hae
              rcases hcases with h | ⟨b1, o1, rfl, hca⟩
              · rw [h] at hlt; simp at hlt
              obtain ⟨u1, u2, g1, _, hB1, _⟩ := hca k x hx
              have c5 := hD.cell g1
              have H1 := hide (lookup_any _ _ u1 E C x.1 wr hsE hsC (unhide HAE) (unhide HAC) (hD.ents (unhide HV1)) (hD.chgs (unhide HV2)) (hD.bytes hB1))
              have HMEM := hide hmem
              have HST := hide hstep
              obtain ⟨p1, q1, rfl, _⟩ := hB1
              have hlt' : (k : Int) < (E.length : Int) := by omega
              clear hca hx hmem g1 hN hstep
              go_wp2_with fail
              refine (unhide H1).mono ?_
              rintro e w9 ⟨ok, v, a9, c9, rfl, hBv, hL, hD9⟩
              have hok := look_entry (unhide HAC) (unhide HMEM) hL
              have hDD := hD.trans hD9
              rw [hok] 
              cases hkp : keeps C x with
              | true =>
                have HN := hide (show ((E.take (k + 1)).filter (keeps C)).length = N + 1 by rw [unhide HST, hkp]; rfl)
                clear hL hBv H1 hok hkp HST HMEM
                go_wp2
                go_roundw
                case rel => exact ⟨k + 1, by omega, by go_num, by rw [unhide HN]; go_num, hDD⟩
                case measure => simp [intOf]; omega
              | false =>
                have HN := hide (show ((E.take (k + 1)).filter (keeps C)).length = N by rw [unhide HST, hkp]; rfl)
                clear hL hBv H1 hok hkp HST HMEM
                go_wp2
                go_roundw
                case rel => exact ⟨k + 1, by omega, by go_num, by rw [unhide HN], hDD⟩
                case measure => simp [intOf]; omega
            · rw [List.take_of_length_le (by omega)] at hN
              have HNE := hide hN
              have hNb : N ≤ 65536 := by omega
              clear hN
              go_wp2
              go_loopw [10, 14] (fun z j wr => ∃ k : Nat, k ≤ C.length ∧ j = .int .i64 k ∧ z = .int .i64 (((N + ((C.take k).filter (adds E)).length : Nat)) : Int) ∧ Drawn w8 wr) (fun _ j _ => C.length - (intOf j).toNat)
              case atStart => exact ⟨0, Nat.zero_le _, rfl, by simp, hD⟩
              case round =>
                clear hk hlt hD
                obtain ⟨k, hk, rfl, rfl, hD⟩ := hrel
                have hcl4 := count_le (adds E) C k
                obtain ⟨N4, hN4⟩ : ∃ N4, N4 = ((C.take k).filter (adds E)).length := ⟨_, rfl⟩
                rw [← hN4] at hcl4 ⊢
                by_cases hlt : k < C.length
                · obtain ⟨x, hx⟩ := get_some C k hlt
                  have hstep := count_step (adds E) C k x hx
                  rw [← hN4] at hstep
                  obtain ⟨a2', c2', hae, _, _, hcases⟩ := id (unhide HV2)
                  simp only [Value.slice.injEq, true_and] at hae
                  obtain ⟨rfl, rfl⟩ := hae
                  rcases hcases with h | ⟨b1, o1, rfl, hca⟩
                  · rw [h] at hlt; simp at hlt
                  obtain ⟨u1, u2, g1, _, g3, hB1, _⟩ := hca k x hx
                  have c5 := hD.cell g1
                  have c6 := hD.cell g3
                  have H1 := hide (finde_any _ u1 E x.1 wr hsE (unhide HAE) (hD.ents (unhide HV1)) (hD.bytes hB1))
                  have HST := hide hstep
                  obtain ⟨p1, q1, rfl, _⟩ := hB1
                  have hlt' : (k : Int) < (C.length : Int) := by omega
                  clear hca hx g1 g3 hN4 hstep
                  cases hdel : x.2.2 with
                  | true =>
                    have HN := hide (show N + ((C.take (k + 1)).filter (adds E)).length = N + N4 by rw [unhide HST]; simp [adds, hdel])
                    rw [hdel] at c6
                    clear H1 HST hdel
                    go_wp2
                    go_roundw
                    case rel => exact ⟨k + 1, by omega, by go_num, by rw [unhide HN]; try go_num, hD⟩
                    case measure => simp [intOf]; omega
                  | false =>
                    rw [hdel] at c6
                    have HDEL := hide hdel
                    clear hdel
                    go_wp2_with fail
                    refine (unhide H1).mono ?_
                    rintro e w9 ⟨r, rfl, hF, hD9⟩
                    have hDD := hD.trans hD9
                    rcases hF with ⟨i, rfl, hi⟩ | ⟨rfl, hno⟩
                    · have hmem := List.mem_map.1 (List.mem_of_getElem? hi)
                      have HN := hide (show N + ((C.take (k + 1)).filter (adds E)).length = N + N4 by
                        rw [unhide HST]
                        obtain ⟨y, hy, hyk⟩ := hmem
                        have : adds E x = false := by
                          have h2 : (E.any fun e => decide (e.1 = x.1)) = true := List.any_eq_true.2 ⟨y, hy, by simpa using hyk⟩
                          simp only [adds, h2]
                          simp
                        simp [this])
                      clear H1 HST hi hmem
                      go_wp2
                      go_roundw
                      case rel => exact ⟨k + 1, by omega, by go_num, by rw [unhide HN]; try go_num, hDD⟩
                      case measure => simp [intOf]; omega
                    · have HN := hide (show N + ((C.take (k + 1)).filter (adds E)).length = N + N4 + 1 by
                        rw [unhide HST, adds_none (fun y hy h => hno (List.mem_map.2 ⟨y, hy, h⟩)), unhide HDEL]
                        rfl)
                      clear H1 HST hno
                      go_wp2
                      go_roundw
                      case rel => exact ⟨k + 1, by omega, by go_num, by rw [unhide HN]; go_num, hDD⟩
                      case measure => simp [intOf]; omega
                · rw [List.take_of_length_le (by omega)] at hN4
                  have hfin : ((g : Int) == (N : Int) + (N4 : Int)) = true := by
                    have := unhide HQ3
                    rw [← unhide HNE, ← hN4] at this
                    simp [this]
                  clear hN4
                  go_wp2
                  go_ret
                  exact ⟨rfl, hB8.trans (hD.below.mono hB8.size)⟩
end Go.Proofs.Qxb6602657a.fnMergeLeavesJustTheMapThatTheChangesMake
