/-
  Contracts on the road of the law over merge: ZZMergeB1 (14), zzFindEntryB1 (19), zzFindChgB1 (32), zzLookupB1 (18).
-/
import Derived.Test.Qxb6602657aMergeC
import Derived.Test.Qxb6602657aMergeLaw
namespace Go.Proofs.Qxb6602657a
open Go.RowKit
set_option linter.unusedVariables false

set_option maxHeartbeats 2000000 in
theorem zzmerge_any (ve vc : Value) (E : List (List UInt8 × List UInt8)) (C : List (List UInt8 × List UInt8 × Bool)) (w : World) (hs : E.length ≤ 65536) (hsC : C.length ≤ 65536) (he : EntsAt w ve E) (hc : ChgsAt w vc C) :
    Calls Try.prog 14 #[ve, vc] w fun e w' => ∃ v', e = .returned v' ∧ EntsAt w' v' (mergeL E C) ∧ (mergeL E C).length ≤ 131072 ∧ Below w.heap.size w w' := by
  have HC := hide hc
  have HM := hide (fun ve w2 (h : Below w.heap.size w w2) (hE : EntsAt w2 ve E) => merge_any ve vc E C w2 hs hsC hE (hc.below h))
  obtain ⟨b, cb, rfl, _⟩ := hc
  obtain ⟨a, c, rfl, hlc, hm, ha⟩ := he
  obtain ⟨n, hn⟩ : ∃ n, n = E.length := ⟨_, rfl⟩
  rw [← hn] at hs hlc ⊢
  have Hn := hide hn
  clear hn
  obtain ⟨G, hG⟩ : ∃ G, G = mergeL E C := ⟨_, rfl⟩
  rw [← hG] at HM ⊢
  clear hG
  go_enter Try.func14, Try.ntmps14
  go_wp2_with (refine wpList_make_is _ rfl _ _ 58 rfl 60 (.agg #[.slice none 0 0, .slice none 0 0]) 2 48 Try.underlying58 Try.info60 .i64 .i64 n rfl rfl (by omega) (by omega) ?_)
  intro w1 hrow hb1 hsz1
  have hO := OwnEnts.start (w := w1) (B := w.heap.size) (t := 60) (n := n) hrow (fun j x => zero2 j x)
  clear hrow
  go_wp2
  go_loopw [6] (fun j wr => ∃ k : Nat, k ≤ n ∧ j = .int .i64 k ∧ OwnEnts wr w.heap.size 60 n (E.take k) ∧ Below w.heap.size w wr) (fun j _ => n - (intOf j).toNat)
  case atStart => exact ⟨0, Nat.zero_le _, rfl, by simpa using hO, hb1⟩
  case round =>
    obtain ⟨k, hk, rfl, hOk, hbk⟩ := hrel
    clear hO hb1 hsz1
    by_cases hlt : k < n
    · obtain ⟨x, hx⟩ := get_some E k (by rw [← unhide Hn]; exact hlt)
      rcases ha with h | ⟨b, off, rfl, hc⟩
      · exact absurd (unhide Hn) (by rw [h]; simp; omega)
      obtain ⟨v1, v2, g1, g2, hB1, hB2⟩ := hc k x hx
      have c1 := cell_below hbk g1
      have c2 := cell_below hbk g2
      have hs1 := hOk.step (take_len E k (by rw [← unhide Hn]; exact hk)) hlt (hB1.below hbk) (hB2.below hbk)
      rw [← take_snoc E k x hx] at hs1
      obtain ⟨⟨u1, k1⟩, ⟨u2, k2⟩, f1, f2⟩ := hOk.room k hlt
      obtain ⟨a1, q1, rfl, _⟩ := hB1
      obtain ⟨a2, q2, rfl, _⟩ := hB2
      have HS := hide hs1
      clear hc hx g1 g2 hs1 hOk HM
      go_wp2
      go_region
      all_goals go_wp2
      all_goals go_roundw
      case rel => exact ⟨k + 1, by omega, by go_num, (unhide HS).below (Below.refl _ _).drew, ((hbk.setCell (Nat.le_refl _) _).setCell (Nat.le_refl _) _).drew⟩
      case measure => simp [intOf]; omega
    · have hkn : k = n := by omega
      subst hkn
      rw [List.take_of_length_le (by rw [← unhide Hn]; exact Nat.le_refl _)] at hOk
      have hB := hOk.ents (c := k) (by rw [← unhide Hn]; exact Nat.le_refl _) (by omega)
      rw [← unhide Hn] at hB
      have H1 := hide (unhide HM _ wr hbk hB)
      clear hOk HM hB ha
      go_wp2_with fail
      refine (unhide H1).mono ?_
      rintro e w2 ⟨v, rfl, hV, hL, hb2⟩
      have hb0 := hbk.trans (hb2.mono hbk.size)
      obtain ⟨a3, c3, rfl, hl3, hm3, h3⟩ := hV
      obtain ⟨g, hg⟩ : ∃ g, g = G.length := ⟨_, rfl⟩
      rw [← hg] at hL hl3 ⊢
      have Hg := hide hg
      clear hg H1 hb2 hbk
      go_wp2_with (refine wpList_make_is _ rfl _ _ 27 rfl 35 (.agg #[.slice none 0 0, .slice none 0 0]) 2 48 Try.underlying27 Try.info35 .i64 .i64 g rfl rfl (by omega) (by omega) ?_)
      intro w3 hrow3 hb3 hsz3
      have hO := OwnEnts.start (w := w3) (B := w2.heap.size) (t := 35) (n := g) hrow3 (fun j x => zero2 j x)
      clear hrow3
      go_wp2
      go_loopw [9] (fun j wl => ∃ l : Nat, l ≤ g ∧ j = .int .i64 l ∧ OwnEnts wl w2.heap.size 35 g (G.take l) ∧ Below w2.heap.size w2 wl) (fun j _ => g - (intOf j).toNat)
      case atStart => exact ⟨0, Nat.zero_le _, rfl, by simpa using hO, hb3⟩
      case round =>
        obtain ⟨l, hl, rfl, hOl, hbl⟩ := hrel
        clear hO hb3 hsz3
        by_cases hlt2 : l < g
        · obtain ⟨x, hx⟩ := get_some G l (by rw [← unhide Hg]; exact hlt2)
          rcases h3 with h | ⟨b, off, rfl, hc⟩
          · exact absurd (unhide Hg) (by rw [h]; simp; omega)
          obtain ⟨v1, v2, g1, g2, hB1, hB2⟩ := hc l x hx
          have c1 := cell_below hbl g1
          have c2 := cell_below hbl g2
          have hs1 := hOl.step (take_len G l (by rw [← unhide Hg]; exact hl)) hlt2 (hB1.below hbl) (hB2.below hbl)
          rw [← take_snoc G l x hx] at hs1
          obtain ⟨⟨u1, k1⟩, ⟨u2, k2⟩, f1, f2⟩ := hOl.room l hlt2
          obtain ⟨a1, q1, rfl, _⟩ := hB1
          obtain ⟨a2, q2, rfl, _⟩ := hB2
          have HS := hide hs1
          clear hc hx g1 g2 hs1 hOl
          go_wp2
          go_region
          all_goals go_wp2
          all_goals go_roundw
          case rel => exact ⟨l + 1, by omega, by go_num, (unhide HS).below (Below.refl _ _).drew, ((hbl.setCell (Nat.le_refl _) _).setCell (Nat.le_refl _) _).drew⟩
          case measure => simp [intOf]; omega
        · have hln : l = g := by omega
          subst hln
          rw [List.take_of_length_le (by rw [← unhide Hg]; exact Nat.le_refl _)] at hOl
          have hB := hOl.ents (c := l) (by rw [← unhide Hg]; exact Nat.le_refl _) (by omega)
          rw [← unhide Hg] at hB
          clear hOl
          go_wp2
          go_ret
          exact ⟨_, rfl, hB, by rw [← unhide Hg]; exact hL, hb0.trans (hbl.mono hb0.size)⟩

/-- where a key stands in a list of keys: its index, or -1 -/
def Found (K : List (List UInt8)) (key : List UInt8) (r : Int) : Prop := (∃ i : Nat, r = (i : Int) ∧ K[i]? = some key) ∨ (r = -1 ∧ key ∉ K)
theorem not_found {K : List (List UInt8)} {key : List UInt8} {lo hi : Nat} (hlh : ¬ lo < hi) (h1 : ∀ (i : Nat) (a : List UInt8), K[i]? = some a → i < lo → Lib.compareBytes a key < 0) (h2 : ∀ (i : Nat) (a : List UInt8), K[i]? = some a → hi ≤ i → 0 < Lib.compareBytes a key) : key ∉ K := by
  intro h
  obtain ⟨i, hi', he⟩ := List.getElem_of_mem h
  have hk : K[i]? = some key := by rw [List.getElem?_eq_getElem hi', he]
  have hs := cmp_self key
  by_cases hc : i < lo
  · have := h1 i key hk hc; omega
  · have := h2 i key hk (by omega); omega

theorem Drawn.trans {a b c : World} (h : Drawn a b) (k : Drawn b c) : Drawn a c := by
  obtain ⟨p, rfl⟩ := h
  obtain ⟨q, rfl⟩ := k
  exact ⟨p + q, by rw [World.drewN_drewN]⟩

set_option maxHeartbeats 2000000 in
theorem finde_any (ve vk : Value) (E : List (List UInt8 × List UInt8)) (key : List UInt8) (w : World) (hs : E.length ≤ 65536) (hA : Asc (E.map (·.1))) (he : EntsAt w ve E) (hk : BytesAt w vk key) :
    Calls Try.prog 19 #[ve, vk] w fun e w' => ∃ r, e = .returned (.int .i64 r) ∧ Found (E.map (·.1)) key r ∧ Drawn w w' := by
  obtain ⟨a, c, rfl, hlc, hm, ha⟩ := he
  obtain ⟨ak, ck, rfl, hmk, _⟩ := id hk
  obtain ⟨n, hn⟩ : ∃ n, n = E.length := ⟨_, rfl⟩
  rw [← hn] at hs hlc ⊢
  have Hn := hide hn
  have HA := hide hA
  have HK := hide hk
  clear hn hA hk
  obtain ⟨lk, hlk⟩ : ∃ lk, lk = key.length := ⟨_, rfl⟩
  rw [← hlk] at hmk HK ⊢
  clear hlk
  go_enter Try.func19, Try.ntmps19
  go_wp2
  go_loopw [5, 6] (fun l h wr => ∃ lo hi : Nat, lo ≤ hi ∧ hi ≤ n ∧ l = .int .i64 lo ∧ h = .int .i64 hi ∧ Hid (∀ (i : Nat) (a : List UInt8), (E.map (·.1))[i]? = some a → i < lo → Lib.compareBytes a key < 0) ∧ Hid (∀ (i : Nat) (a : List UInt8), (E.map (·.1))[i]? = some a → hi ≤ i → 0 < Lib.compareBytes a key) ∧ Drawn w wr) (fun l h _ => (intOf h - intOf l).toNat)
  case atStart => exact ⟨0, n, Nat.zero_le _, Nat.le_refl _, rfl, rfl, fun i a _ h => absurd h (by omega), fun i a h hi => absurd (List.getElem?_eq_some_iff.1 h).1 (by simp; have := unhide Hn; omega), Drawn.refl _⟩
  case round =>
    obtain ⟨lo, hi, hlh, hhn, rfl, rfl, HL, HH, hD⟩ := hrel
    by_cases hlt : lo < hi
    · obtain ⟨mid, hmid⟩ : ∃ mid : Nat, mid = lo + (hi - lo) / 2 := ⟨_, rfl⟩
      have hm1 : lo ≤ mid := by omega
      have hm2 : mid < hi := by omega
      have hme : (lo : Int) + ((hi : Int) - (lo : Int)) / 2 = (mid : Int) := by omega
      obtain ⟨x, hx⟩ := get_some E mid (by rw [← unhide Hn]; omega)
      rcases ha with h | ⟨b, off, rfl, hc⟩
      · exact absurd (unhide Hn) (by rw [h]; simp; omega)
      obtain ⟨v1, v2, g1, _, hB1, _⟩ := hc mid x hx
      have c1 := hD.cell g1
      have H1 := hide (cmp_any v1 _ x.1 key wr (hD.bytes hB1) (hD.bytes (unhide HK)))
      have hKm : (E.map (·.1))[mid]? = some x.1 := by simp [hx]
      obtain ⟨R, hR⟩ : ∃ R, R = Lib.compareBytes x.1 key := ⟨_, rfl⟩
      rw [← hR] at H1
      have HR := hide hR
      have HM := hide hKm
      obtain ⟨a1, q1, rfl, _⟩ := hB1
      clear hc hx g1 hR hKm hmid
      rcases (show R < 0 ∨ R = 0 ∨ 0 < R by omega) with hR0 | hR0 | hR0
      · have hRb : (R == 0) = false := by simp; omega
        have HN := hide (show ∀ (i : Nat) (a : List UInt8), (E.map (·.1))[i]? = some a → i < mid + 1 → Lib.compareBytes a key < 0 from fun i a hi' hlt' => by
          by_cases e : i = mid
          · subst e
            rw [unhide HM] at hi'
            have : x.1 = a := by simpa using hi'
            rw [← this, ← unhide HR]; exact hR0
          · exact cmp_trans a x.1 key ((unhide HA).lt hi' (unhide HM) (by omega)) (by rw [← unhide HR]; exact hR0))
        go_wp2_with (go_at_call 17; refine (unhide H1).mono ?_; rintro e w2 ⟨rfl, hD2⟩)
        go_roundw
        case rel => exact ⟨mid + 1, hi, by omega, hhn, by go_num, rfl, HN, HH, hD.trans hD2⟩
        case measure => simp [intOf]; omega
      · have HF := hide (show Found (E.map (·.1)) key (mid : Int) from .inl ⟨mid, rfl, by rw [unhide HM]; rw [cmp_zero x.1 key (by rw [← unhide HR]; exact hR0)]⟩)
        have hRb : (R == 0) = true := by simp [hR0]
        clear hR0
        go_wp2_with (go_at_call 17; refine (unhide H1).mono ?_; rintro e w2 ⟨rfl, hD2⟩)
        go_ret
        exact ⟨_, rfl, unhide HF, hD.trans hD2⟩
      · have hRb : (R == 0) = false := by simp; omega
        have hRn : ¬ R < 0 := by omega
        have HN := hide (show ∀ (i : Nat) (a : List UInt8), (E.map (·.1))[i]? = some a → mid ≤ i → 0 < Lib.compareBytes a key from fun i a hi' hlt' => by
          have hxk : Lib.compareBytes key x.1 < 0 := by rw [cmp_swap, ← unhide HR]; omega
          by_cases e : i = mid
          · subst e
            rw [unhide HM] at hi'
            have : x.1 = a := by simpa using hi'
            rw [← this, ← unhide HR]; exact hR0
          · have := cmp_trans key x.1 a hxk ((unhide HA).lt (unhide HM) hi' (by omega))
            rw [cmp_swap]
            omega)
        go_wp2_with (go_at_call 17; refine (unhide H1).mono ?_; rintro e w2 ⟨rfl, hD2⟩)
        go_roundw
        case rel => exact ⟨lo, mid, hm1, by omega, rfl, rfl, HL, HN, hD.trans hD2⟩
        case measure => simp [intOf]; omega
    · have HF := hide (show Found (E.map (·.1)) key (-1) from .inr ⟨rfl, not_found hlt (unhide HL) (unhide HH)⟩)
      go_wp2
      go_ret
      exact ⟨_, rfl, unhide HF, hD⟩

set_option maxHeartbeats 2000000 in
theorem findc_any (ve vk : Value) (E : List (List UInt8 × List UInt8 × Bool)) (key : List UInt8) (w : World) (hs : E.length ≤ 65536) (hA : Asc (E.map (·.1))) (he : ChgsAt w ve E) (hk : BytesAt w vk key) :
    Calls Try.prog 32 #[ve, vk] w fun e w' => ∃ r, e = .returned (.int .i64 r) ∧ Found (E.map (·.1)) key r ∧ Drawn w w' := by
  obtain ⟨a, c, rfl, hlc, hm, ha⟩ := he
  obtain ⟨ak, ck, rfl, hmk, _⟩ := id hk
  obtain ⟨n, hn⟩ : ∃ n, n = E.length := ⟨_, rfl⟩
  rw [← hn] at hs hlc ⊢
  have Hn := hide hn
  have HA := hide hA
  have HK := hide hk
  clear hn hA hk
  obtain ⟨lk, hlk⟩ : ∃ lk, lk = key.length := ⟨_, rfl⟩
  rw [← hlk] at hmk HK ⊢
  clear hlk
  go_enter Try.func32, Try.ntmps32
  go_wp2
  go_loopw [5, 6] (fun l h wr => ∃ lo hi : Nat, lo ≤ hi ∧ hi ≤ n ∧ l = .int .i64 lo ∧ h = .int .i64 hi ∧ Hid (∀ (i : Nat) (a : List UInt8), (E.map (·.1))[i]? = some a → i < lo → Lib.compareBytes a key < 0) ∧ Hid (∀ (i : Nat) (a : List UInt8), (E.map (·.1))[i]? = some a → hi ≤ i → 0 < Lib.compareBytes a key) ∧ Drawn w wr) (fun l h _ => (intOf h - intOf l).toNat)
  case atStart => exact ⟨0, n, Nat.zero_le _, Nat.le_refl _, rfl, rfl, fun i a _ h => absurd h (by omega), fun i a h hi => absurd (List.getElem?_eq_some_iff.1 h).1 (by simp; have := unhide Hn; omega), Drawn.refl _⟩
  case round =>
    obtain ⟨lo, hi, hlh, hhn, rfl, rfl, HL, HH, hD⟩ := hrel
    by_cases hlt : lo < hi
    · obtain ⟨mid, hmid⟩ : ∃ mid : Nat, mid = lo + (hi - lo) / 2 := ⟨_, rfl⟩
      have hm1 : lo ≤ mid := by omega
      have hm2 : mid < hi := by omega
      have hme : (lo : Int) + ((hi : Int) - (lo : Int)) / 2 = (mid : Int) := by omega
      obtain ⟨x, hx⟩ := get_some E mid (by rw [← unhide Hn]; omega)
      rcases ha with h | ⟨b, off, rfl, hc⟩
      · exact absurd (unhide Hn) (by rw [h]; simp; omega)
      obtain ⟨v1, v2, g1, _, _, hB1, _⟩ := hc mid x hx
      have c1 := hD.cell g1
      have H1 := hide (cmp_any v1 _ x.1 key wr (hD.bytes hB1) (hD.bytes (unhide HK)))
      have hKm : (E.map (·.1))[mid]? = some x.1 := by simp [hx]
      obtain ⟨R, hR⟩ : ∃ R, R = Lib.compareBytes x.1 key := ⟨_, rfl⟩
      rw [← hR] at H1
      have HR := hide hR
      have HM := hide hKm
      obtain ⟨a1, q1, rfl, _⟩ := hB1
      clear hc hx g1 hR hKm hmid
      rcases (show R < 0 ∨ R = 0 ∨ 0 < R by omega) with hR0 | hR0 | hR0
      · have hRb : (R == 0) = false := by simp; omega
        have HN := hide (show ∀ (i : Nat) (a : List UInt8), (E.map (·.1))[i]? = some a → i < mid + 1 → Lib.compareBytes a key < 0 from fun i a hi' hlt' => by
          by_cases e : i = mid
          · subst e
            rw [unhide HM] at hi'
            have : x.1 = a := by simpa using hi'
            rw [← this, ← unhide HR]; exact hR0
          · exact cmp_trans a x.1 key ((unhide HA).lt hi' (unhide HM) (by omega)) (by rw [← unhide HR]; exact hR0))
        go_wp2_with (go_at_call 17; refine (unhide H1).mono ?_; rintro e w2 ⟨rfl, hD2⟩)
        go_roundw
        case rel => exact ⟨mid + 1, hi, by omega, hhn, by go_num, rfl, HN, HH, hD.trans hD2⟩
        case measure => simp [intOf]; omega
      · have HF := hide (show Found (E.map (·.1)) key (mid : Int) from .inl ⟨mid, rfl, by rw [unhide HM]; rw [cmp_zero x.1 key (by rw [← unhide HR]; exact hR0)]⟩)
        have hRb : (R == 0) = true := by simp [hR0]
        clear hR0
        go_wp2_with (go_at_call 17; refine (unhide H1).mono ?_; rintro e w2 ⟨rfl, hD2⟩)
        go_ret
        exact ⟨_, rfl, unhide HF, hD.trans hD2⟩
      · have hRb : (R == 0) = false := by simp; omega
        have hRn : ¬ R < 0 := by omega
        have HN := hide (show ∀ (i : Nat) (a : List UInt8), (E.map (·.1))[i]? = some a → mid ≤ i → 0 < Lib.compareBytes a key from fun i a hi' hlt' => by
          have hxk : Lib.compareBytes key x.1 < 0 := by rw [cmp_swap, ← unhide HR]; omega
          by_cases e : i = mid
          · subst e
            rw [unhide HM] at hi'
            have : x.1 = a := by simpa using hi'
            rw [← this, ← unhide HR]; exact hR0
          · have := cmp_trans key x.1 a hxk ((unhide HA).lt (unhide HM) hi' (by omega))
            rw [cmp_swap]
            omega)
        go_wp2_with (go_at_call 17; refine (unhide H1).mono ?_; rintro e w2 ⟨rfl, hD2⟩)
        go_roundw
        case rel => exact ⟨lo, mid, hm1, by omega, rfl, rfl, HL, HN, hD.trans hD2⟩
        case measure => simp [intOf]; omega
    · have HF := hide (show Found (E.map (·.1)) key (-1) from .inr ⟨rfl, not_found hlt (unhide HL) (unhide HH)⟩)
      go_wp2
      go_ret
      exact ⟨_, rfl, unhide HF, hD⟩

theorem Drawn.ents {w wr : World} (h : Drawn w wr) {v : Value} {E : List (List UInt8 × List UInt8)} (he : EntsAt w v E) : EntsAt wr v E := he.below h.below
theorem Drawn.chgs {w wr : World} (h : Drawn w wr) {v : Value} {C : List (List UInt8 × List UInt8 × Bool)} (he : ChgsAt w v C) : ChgsAt wr v C := he.below h.below

set_option maxHeartbeats 2000000 in
theorem lookup_any (ve vc vk : Value) (E : List (List UInt8 × List UInt8)) (C : List (List UInt8 × List UInt8 × Bool)) (key : List UInt8) (w : World) (hs : E.length ≤ 65536) (hsC : C.length ≤ 65536) (hA : Asc (E.map (·.1))) (hAC : Asc (C.map (·.1))) (he : EntsAt w ve E) (hc : ChgsAt w vc C) (hk : BytesAt w vk key) :
    Calls Try.prog 18 #[ve, vc, vk] w fun e w' => ∃ ok v a c, e = .returned (.tuple #[.bool ok, .slice a v.length c]) ∧ BytesAt w' (.slice a v.length c) v ∧ Look E C key ok v ∧ Drawn w w' := by
  have H1 := hide (findc_any vc vk C key w hsC hAC hc hk)
  have H2 := hide (fun w2 (h : Drawn w w2) => finde_any ve vk E key w2 hs hA (h.ents he) (h.bytes hk))
  obtain ⟨a, c, rfl, hlc, hm, ha⟩ := he
  obtain ⟨b, d, rfl, hld, hmd, hb⟩ := hc
  obtain ⟨p, q, rfl, _⟩ := hk
  clear hA hAC
  go_enter Try.func18, Try.ntmps18
  go_wp2_with fail
  refine (unhide H1).mono ?_
  rintro e w1 ⟨r, rfl, hF, hD⟩
  rcases hF with ⟨i, rfl, hi⟩ | ⟨rfl, hno⟩
  · rw [List.getElem?_map, Option.map_eq_some_iff] at hi
    obtain ⟨x, hx, hxk⟩ := hi
    have hil := (List.getElem?_eq_some_iff.1 hx).1
    have hmem := List.mem_of_getElem? hx
    rcases hb with h | ⟨b1, o1, rfl, hcc⟩
    · rw [h] at hil; simp at hil
    obtain ⟨v1, v2, g1, g2, g3, _, hB2⟩ := hcc i x hx
    have c2 := hD.cell g2
    have c3 := hD.cell g3
    have hV := hD.bytes hB2
    obtain ⟨a2, q2, rfl, hlv, _⟩ := hB2
    have hi1 : (i : Int) < (C.length : Int) := by omega
    clear hcc g1 g2 g3 H1 H2
    cases hdel : x.2.2 with
    | true =>
      have HL := hide (show Look E C key false [] from .inl ⟨x, hmem, hxk, hdel, rfl⟩)
      rw [hdel] at c3
      clear hdel hxk hmem hx
      go_wp2
      go_ret2
      exact ⟨false, [], none, 0, rfl, BytesAt.nil _, unhide HL, hD⟩
    | false =>
      have HL := hide (show Look E C key true x.2.1 from .inr (.inl ⟨x, hmem, hxk, hdel, rfl, rfl⟩))
      rw [hdel] at c3
      have HV := hide hV
      clear hdel hxk hmem hx hV
      go_wp2
      go_quiet (fail)
      go_wp2
      go_ret2
      exact ⟨true, x.2.1, a2, q2, rfl, (unhide HV).below (below_drewN (Below.refl _ _) _), unhide HL, hD.more _⟩
  · have HNO := hide hno
    clear hno H1
    go_wp2_with fail
    refine (unhide H2 w1 hD).mono ?_
    rintro e w2 ⟨r, rfl, hF, hD2⟩
    have hD3 := hD.trans hD2
    rcases hF with ⟨i, rfl, hi⟩ | ⟨rfl, hno2⟩
    · rw [List.getElem?_map, Option.map_eq_some_iff] at hi
      obtain ⟨x, hx, hxk⟩ := hi
      have hil := (List.getElem?_eq_some_iff.1 hx).1
      have hmem := List.mem_of_getElem? hx
      rcases ha with h | ⟨b1, o1, rfl, hcc⟩
      · rw [h] at hil; simp at hil
      obtain ⟨v1, v2, g1, g2, _, hB2⟩ := hcc i x hx
      have c2 := hD3.cell g2
      have hV := hD3.bytes hB2
      obtain ⟨a2, q2, rfl, hlv, _⟩ := hB2
      have hi1 : (i : Int) < (E.length : Int) := by omega
      have HL := hide (show Look E C key true x.2 from .inr (.inr (.inl ⟨unhide HNO, x, hmem, hxk, rfl, rfl⟩)))
      have HV := hide hV
      clear hcc g1 g2 H2 hxk hmem hx hV
      go_wp2
      go_quiet (fail)
      go_wp2
      go_ret2
      exact ⟨true, x.2, a2, q2, rfl, (unhide HV).below (below_drewN (Below.refl _ _) _), unhide HL, hD3.more _⟩
    · have HL := hide (show Look E C key false [] from .inr (.inr (.inr ⟨unhide HNO, hno2, rfl⟩)))
      clear hno2 H2
      go_wp2
      go_ret2
      exact ⟨false, [], none, 0, rfl, BytesAt.nil _, unhide HL, hD3⟩
end Go.Proofs.Qxb6602657a
