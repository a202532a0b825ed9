import Derived.Test.Qxb6603692aQuote
import Derived.Test.Qxb6603692aShelf
namespace Go.Proofs.Qxb6603692a
open Go.RowKit
set_option linter.unusedVariables false

/-! ### where the bytes of the quoted text lie -/
def qb (s : ByteArray) : ByteArray := ⟨(quote s.data.toList).toArray⟩
theorem qb_size (s : ByteArray) : (qb s).size = (body s.data.toList).length + 2 := by simp [qb, quote, ByteArray.size]
theorem qb_at (s : ByteArray) (j : Nat) (h : j < (qb s).size) {c : UInt8} (hc : (quote s.data.toList)[j]? = some c) : ((qb s)[j].toNat : Int) = c.toNat := by
  obtain ⟨h1, h2⟩ := List.getElem?_eq_some_iff.1 hc
  have e : (qb s)[j] = (quote s.data.toList)[j] := rfl
  exact congrArg (fun x : UInt8 => (x.toNat : Int)) (e.trans h2)
theorem quote_parts (l : List UInt8) (k : Nat) (hk : k < l.length) : quote l = (34 :: body (l.take k)) ++ (esc l[k] ++ (body (l.drop (k + 1)) ++ [34])) := by
  have h : l = l.take k ++ (l[k] :: l.drop (k + 1)) := by rw [← List.drop_eq_getElem_cons hk, List.take_append_drop]
  have h2 : body l = body (l.take k) ++ (esc l[k] ++ body (l.drop (k + 1))) := by
    have h3 : body l = body (l.take k ++ (l[k] :: l.drop (k + 1))) := congrArg body h
    rw [h3]
    simp only [body, List.flatMap_append, List.flatMap_cons]
  simp [quote, h2]
theorem body_parts (l : List UInt8) (k : Nat) (hk : k < l.length) : (body l).length = (body (l.take k)).length + (esc l[k]).length + (body (l.drop (k + 1))).length := by
  have := congrArg List.length (quote_parts l k hk)
  simp [quote] at this
  omega
theorem qb_one (s : ByteArray) (k : Nat) (hk : k < s.size) (he : esc s[k] = [s[k]]) (h : 1 + (body (s.data.toList.take k)).length < (qb s).size) : ((qb s)[1 + (body (s.data.toList.take k)).length].toNat : Int) = s[k].toNat := by
  refine qb_at s _ h ?_
  have hk' : k < s.data.toList.length := by simpa using hk
  have he' : esc s.data.toList[k] = [s[k]] := he
  rw [quote_parts _ k hk', List.getElem?_append_right (by simp; omega), he']
  have : 1 + (body (s.data.toList.take k)).length - (34 :: body (s.data.toList.take k)).length = 0 := by simp only [List.length_cons]; omega
  rw [this]
  rfl
theorem qb_two (s : ByteArray) (k : Nat) (hk : k < s.size) (he : esc s[k] = [92, s[k]]) (h : 1 + (body (s.data.toList.take k)).length + 1 < (qb s).size) :
    ((qb s)[1 + (body (s.data.toList.take k)).length].toNat : Int) = 92 ∧ ((qb s)[1 + (body (s.data.toList.take k)).length + 1].toNat : Int) = s[k].toNat := by
  have hk' : k < s.data.toList.length := by simpa using hk
  have he' : esc s.data.toList[k] = [92, s[k]] := he
  constructor
  · have := qb_at s (1 + (body (s.data.toList.take k)).length) (by omega) (c := 92) (by
      rw [quote_parts _ k hk', List.getElem?_append_right (by simp; omega), he']
      have : 1 + (body (s.data.toList.take k)).length - (34 :: body (s.data.toList.take k)).length = 0 := by simp only [List.length_cons]; omega
      rw [this]
      rfl)
    exact this
  · refine qb_at s _ h ?_
    rw [quote_parts _ k hk', List.getElem?_append_right (by simp only [List.length_cons]; omega), he']
    have : 1 + (body (s.data.toList.take k)).length + 1 - (34 :: body (s.data.toList.take k)).length = 1 := by simp only [List.length_cons]; omega
    rw [this]
    rfl
theorem qb_head (s : ByteArray) (h : 0 < (qb s).size) : ((qb s)[0].toNat : Int) = 34 := qb_at s 0 h (c := 34) rfl
theorem qb_last (s : ByteArray) (h : (qb s).size - 1 < (qb s).size) : ((qb s)[(qb s).size - 1].toNat : Int) = 34 := by
  refine qb_at s _ h (c := 34) ?_
  have e : (qb s).size - 1 = (34 :: body s.data.toList).length := by rw [qb_size]; simp
  have e2 : quote s.data.toList = (34 :: body s.data.toList) ++ [34] := by simp [quote]
  rw [e, e2, List.getElem?_append_right (Nat.le_refl _), Nat.sub_self]
  rfl

set_option maxHeartbeats 1000000 in
set_option maxRecDepth 100000 in
theorem unquote_any (s : ByteArray) (w : World) (hs : s.size ≤ 524288) (hp : pr s = true) :
    Calls Try.prog 23 #[.string (qb s)] w fun e w' => e = .returned (.tuple #[.string s, .bool true]) ∧ Below w.heap.size w w' := by
  have HSZ := hide (qb_size s)
  have hq2 : 2 ≤ (qb s).size := by rw [unhide HSZ]; omega
  have hq3 : (qb s).size ≤ 1048578 := by
    rw [unhide HSZ]
    have h1 := body_length s.data.toList
    have h3 : s.data.toList.length = s.size := by simp
    omega
  have h0 : 0 < (qb s).size := by omega
  have hl : (qb s).size - 1 < (qb s).size := by omega
  have e0 := qb_head s h0
  have el := qb_last s hl
  have b0 : (((qb s)[0].toNat : Int) != 34) = false := by rw [e0]; rfl
  have bl : (((qb s)[(qb s).size - 1].toNat : Int) != 34) = false := by rw [el]; rfl
  clear e0 el
  have HP := hide hp
  clear hp
  go_enter Try.func23, Try.ntmps23
  go_wp2_with fail
  have I0 : Lib.IsBuilder 47 5 w.heap.size w.heap.size (Lib.byteCells (s.data.toList.take 0)) (w.alloc (.cells #[.pointer none, .slice none 0 0] 47)) := Lib.fresh_isBuilder 47 5 w
  have B0 : Below w.heap.size w (w.alloc (.cells #[.pointer none, .slice none 0 0] 47)) := (Below.refl _ w).alloc (Nat.le_refl _) _
  go_loopw [5] (fun i wr => ∃ k p : Nat, k ≤ s.size ∧ Hid (p = 1 + (body (s.data.toList.take k)).length) ∧ i = .int .i64 p ∧ Lib.IsBuilder 47 5 w.heap.size w.heap.size (Lib.byteCells (s.data.toList.take k)) wr ∧ Below w.heap.size w wr) (fun i wr => (qb s).size - (intOf i).toNat)
  case atStart => exact ⟨0, 1, Nat.zero_le _, rfl, rfl, I0, B0⟩
  case round =>
    clear I0 B0 b0 bl
    obtain ⟨k, p, hk, HPK, rfl, IR, bR⟩ := hrel
    have hsz := bR.size
    have hbl : (Lib.byteCells (s.data.toList.take k)).length ≤ s.size := by
      rw [Lib.byteCells_length]
      have h2 : (s.data.toList.take k).length ≤ s.data.toList.length := List.length_take_le' _ _
      have h3 : s.data.toList.length = s.size := by simp
      omega
    by_cases hlt : k < s.size
    · have hk' : k < s.data.toList.length := by simpa using hlt
      have HBP := hide (body_parts s.data.toList k hk')
      have HTS := hide (take_snoc s k hlt)
      have HEL := hide (esc_length s[k])
      have HPR := hide (pr_at (unhide HP) k hlt)
      have HBN : Hid (body (s.data.toList.take (k + 1)) = body (s.data.toList.take k) ++ esc s[k]) := by
        unfold Hid
        rw [take_snoc s k hlt, body_snoc]
      by_cases h1 : (s[k].toNat : Int) = 34 ∨ (s[k].toNat : Int) = 92
      · have HE : Hid (esc s[k] = [92, s[k]]) := by unfold Hid esc; rw [if_pos h1]
        have HE2 : Hid ((esc s[k]).length = 2) := by unfold Hid; rw [unhide HE]; rfl
        have hp1 : p + 1 + 1 < (qb s).size := by
          have a1 := unhide HSZ
          have a2 : (body s.data.toList).length = (body (s.data.toList.take k)).length + (esc s[k]).length + (body (s.data.toList.drop (k + 1))).length := unhide HBP
          have a3 := unhide HE2
          have a4 := unhide HPK
          omega
        have hp0 : p < (qb s).size := by omega
        have hp2 : p + 1 < (qb s).size := by omega
        obtain ⟨q1, q2⟩ : ((qb s)[p].toNat : Int) = 92 ∧ ((qb s)[p + 1].toNat : Int) = s[k].toNat := by
          have a4 := unhide HPK
          subst a4
          exact qb_two s k hlt (unhide HE) hp2
        have e1 : (((qb s)[p].toNat : Int) == 92) = true := by rw [q1]; rfl
        have e2 : ((p : Int) + 1 == ((qb s).size : Int) - 1) = false := beq_eq_false_iff_ne.2 (by omega)
        have HQ2 := hide q2
        have H1 := hide (write_any w.heap.size w.heap.size _ ((qb s)[p + 1].toNat : Int) wr IR (by omega) bR.size)
        have e3 : (((qb s)[p + 1].toNat : Int) != 34) = false ∨ ((((qb s)[p + 1].toNat : Int) != 34) = true ∧ (((qb s)[p + 1].toNat : Int) != 92) = false) := by
          rw [q2]
          rcases h1 with h1 | h1 <;> rw [h1] <;> decide
        clear q1 q2 h1
        rcases e3 with e3 | ⟨e3, e4⟩
        all_goals
          go_wp2_with fail
          refine (unhide H1).mono ?_
          rintro e w3 ⟨rfl, I3, b3⟩
          have b3' := bR.trans b3
          have HI3 := hide I3
          clear IR bR b3 I3
          go_wp2
          go_roundw
          case rel =>
            refine ⟨k + 1, p + 1 + 1, by omega, ?_, by go_num, ?_, b3'⟩
            · unfold Hid
              rw [unhide HBN, List.length_append, unhide HE2, unhide HPK]
              omega
            · rw [unhide HTS, byteCells_snoc, ← unhide HQ2]
              exact unhide HI3
          case measure => simp [intOf]; omega
      · have HE : Hid (esc s[k] = [s[k]]) := by unfold Hid esc; rw [if_neg h1]
        have HE2 : Hid ((esc s[k]).length = 1) := by unfold Hid; rw [unhide HE]; rfl
        have hp1 : p + 1 < (qb s).size := by
          have a1 := unhide HSZ
          have a2 : (body s.data.toList).length = (body (s.data.toList.take k)).length + (esc s[k]).length + (body (s.data.toList.drop (k + 1))).length := unhide HBP
          have a3 := unhide HE2
          have a4 := unhide HPK
          omega
        have hp0 : p < (qb s).size := by omega
        have q1 : ((qb s)[p].toNat : Int) = s[k].toNat := by
          have a4 := unhide HPK
          subst a4
          exact qb_one s k hlt (unhide HE) hp0
        have HQ1 := hide q1
        have e1 : (((qb s)[p].toNat : Int) == 92) = false := by rw [q1]; exact beq_eq_false_iff_ne.2 fun h => h1 (.inr h)
        have e2 : (((qb s)[p].toNat : Int) == 34) = false := by rw [q1]; exact beq_eq_false_iff_ne.2 fun h => h1 (.inl h)
        have e3 : decide (((qb s)[p].toNat : Int) < 32) = false := by rw [q1]; exact decide_eq_false (by have := unhide HPR; omega)
        have e4 : decide (126 < ((qb s)[p].toNat : Int)) = false := by rw [q1]; exact decide_eq_false (by have := unhide HPR; omega)
        have H1 := hide (write_any w.heap.size w.heap.size _ ((qb s)[p].toNat : Int) wr IR (by omega) bR.size)
        clear q1 h1
        go_wp2_with fail
        refine (unhide H1).mono ?_
        rintro e w3 ⟨rfl, I3, b3⟩
        have b3' := bR.trans b3
        have HI3 := hide I3
        clear IR bR b3 I3
        go_wp2
        go_roundw
        case rel =>
          refine ⟨k + 1, p + 1, by omega, ?_, by go_num, ?_, b3'⟩
          · unfold Hid
            rw [unhide HBN, List.length_append, unhide HE2, unhide HPK]
            omega
          · rw [unhide HTS, byteCells_snoc, ← unhide HQ1]
            exact unhide HI3
        case measure => simp [intOf]; omega
    · have HT : Hid (s.data.toList.take k = s.data.toList) := List.take_of_length_le (by simp; omega)
      have hp1 : p + 1 = (qb s).size := by
        have a4 := unhide HPK
        have a1 := unhide HSZ
        rw [unhide HT] at a4
        omega
      have IR' : Lib.IsBuilder 47 5 w.heap.size w.heap.size (Lib.byteCells s.data.toList) wr := by rw [← unhide HT]; exact IR
      have H1 := hide (Try.Builder_String_any w.heap.size w.heap.size s.data.toList wr IR' bR.size)
      clear IR IR' hbl
      go_wp2_with fail
      refine (unhide H1).mono ?_
      rintro e w3 ⟨rfl, b3⟩
      have b3' := bR.trans b3
      clear bR b3
      go_wp2
      go_ret2
      exact ⟨rfl, b3'⟩
end Go.Proofs.Qxb6603692a
