import Derived.Test.Qxb6603692aBuilder
import Derived.Below
import Derived.OwnWalk
import Derived.Laws.IdiomStrings
namespace Go.Proofs.Qxb6603692a
open Go.RowKit
set_option linter.unusedVariables false

/-! ### zzPrintable (12) -/
def pr (s : ByteArray) : Bool := s.data.toList.all fun c => decide (32 ≤ (c.toNat : Int) ∧ (c.toNat : Int) ≤ 126)
theorem pr_true {s : ByteArray} (h : ∀ j (hj : j < s.size), 32 ≤ (s[j].toNat : Int) ∧ (s[j].toNat : Int) ≤ 126) : pr s = true := by
  unfold pr
  rw [List.all_eq_true]
  intro c hc
  obtain ⟨j, hj, rfl⟩ := List.getElem_of_mem hc
  exact decide_eq_true (h j (by simpa using hj))
theorem pr_false {s : ByteArray} {k : Nat} (hk : k < s.size) (h : ¬ (32 ≤ (s[k].toNat : Int) ∧ (s[k].toNat : Int) ≤ 126)) : pr s = false := by
  unfold pr
  rw [List.all_eq_false]
  exact ⟨s[k], Array.getElem_mem_toList (xs := s.data) (by simpa using hk), by simpa using h⟩
theorem pr_at {s : ByteArray} (h : pr s = true) (k : Nat) (hk : k < s.size) : 32 ≤ (s[k].toNat : Int) ∧ (s[k].toNat : Int) ≤ 126 := by
  unfold pr at h
  rw [List.all_eq_true] at h
  exact of_decide_eq_true (h _ (Array.getElem_mem_toList (xs := s.data) (by simpa using hk)))
theorem ret_bool {a b : Bool} (h : a = b) : Ending.returned (.bool a) = .returned (.bool b) := by rw [h]
set_option maxHeartbeats 400000 in
theorem printable_any (s : ByteArray) (w : World) (hs : s.size ≤ maxLen) :
    Calls Try.prog 12 #[.string s] w fun e w' => e = .returned (.bool (pr s)) ∧ w' = w := by
  unfold maxLen at hs
  go_enter Try.func12, Try.ntmps12
  go_wp2
  go_loop [3] (fun i => ∃ k : Nat, k ≤ s.size ∧ i = .int .i64 k ∧ Hid (∀ j (hj : j < s.size), j < k → 32 ≤ (s[j].toNat : Int) ∧ (s[j].toNat : Int) ≤ 126)) (fun i => s.size - (intOf i).toNat)
  case atStart => exact ⟨0, Nat.zero_le _, rfl, fun j _ h => absurd h (Nat.not_lt_zero _)⟩
  case round =>
    obtain ⟨k, hk, rfl, HR⟩ := hrel
    by_cases hlt : k < s.size
    · by_cases h1 : (s[k].toNat : Int) < 32
      · go_wp2
        go_ret
        exact ⟨ret_bool (pr_false hlt (by omega)).symm, rfl⟩
      · by_cases h2 : 126 < (s[k].toNat : Int)
        · go_wp2
          go_ret
          exact ⟨ret_bool (pr_false hlt (by omega)).symm, rfl⟩
        · go_wp2
          go_round
          case rel =>
            refine ⟨k + 1, by omega, by go_num, ?_⟩
            intro j hj hjk
            by_cases e : j = k
            · subst e; omega
            · exact HR.out j hj (by omega)
          case measure => simp [intOf]; omega
    · go_wp2
      go_ret
      exact ⟨ret_bool (pr_true fun j hj => HR.out j hj (by omega)).symm, rfl⟩

/-! ### zzQuote (13) -/
def esc (c : UInt8) : List UInt8 := if (c.toNat : Int) = 34 ∨ (c.toNat : Int) = 92 then [92, c] else [c]
def body (l : List UInt8) : List UInt8 := l.flatMap esc
theorem body_snoc (l : List UInt8) (c : UInt8) : body (l ++ [c]) = body l ++ esc c := by simp [body]
theorem esc_length (c : UInt8) : 1 ≤ (esc c).length ∧ (esc c).length ≤ 2 := by unfold esc; split <;> simp
theorem body_length : ∀ l : List UInt8, (body l).length ≤ 2 * l.length
  | [] => by simp [body]
  | c :: l => by
    have h1 := esc_length c
    have h2 := body_length l
    simp only [body, List.flatMap_cons, List.length_append, List.length_cons] at h2 ⊢
    omega
def quote (l : List UInt8) : List UInt8 := 34 :: (body l ++ [34])
theorem take_snoc (s : ByteArray) (k : Nat) (h : k < s.size) : s.data.toList.take (k + 1) = s.data.toList.take k ++ [s[k]] := by
  rw [List.take_succ_eq_append_getElem (by simpa using h)]; rfl

/-- The value v holds the bytes l in a row that the call has made (from block B on). -/
def OwnB (B : Nat) (v : Value) (l : List UInt8) (w : World) : Prop := w.ownsRow B 5 1 v l.length (Lib.byteCells l)
theorem byteCells_snoc (l : List UInt8) (c : UInt8) : Lib.byteCells (l ++ [c]) = Lib.byteCells l ++ [.int .u8 c.toNat] := by simp [Lib.byteCells]

/-- 'b = append(b, c)', c a byte that lies in the newest block. -/
theorem law_append_byte {ops : Array Oper} {rest : List Oper} {o : Oper} {a : Act} {Q : Exit → Act → World → Prop} (hg : o.guard = none) (s x : Operand)
    (ho : o.op = .call { callee := .builtin .append, args := #[s, x], argTypes := #[26, 26] }) (B : Nat) (v : Value) (l : List UInt8) (c : UInt8) (z : Int) (hz : z = (c.toNat : Int)) (w0 : World)
    (hs : a.eval s = v) (hx : a.eval x = .slice (some ⟨w0.heap.size, 0, none⟩) 1 1) (hown : OwnB B v l w0) (hlen : l.length + 1 ≤ 140737488355328) (hB : B ≤ w0.heap.size)
    (hK : ∀ v' w', OwnB B v' (l ++ [c]) w' → Below B w0 w' → wpList Try.prog ops Q rest (a.put o.dst v') w') :
    wpList Try.prog ops Q (o :: rest) a (w0.alloc (.cells #[.int .u8 z] 5)) := by
  obtain ⟨i0, hi, hz0, hz1, hz2⟩ := info_parts Try.info5
  subst hz
  refine wpList_append_own _ hg s x 26 ho B 5 i0 (.int .u8 0) 1 1 Try.underlying26 hi hz0 hz1 hz2 rfl (by decide) v l.length (Lib.byteCells l) hs (World.ownsRow.alloc hown _) ⟨w0.heap.size, 0, none⟩ 1 1 [.int .u8 c.toNat] hx rfl ?c1 ?c2 ?c3 ?c4 ?c5 ?_
  case c1 =>
    intro j u hj
    match j, hj with
    | 0, hj => simp at hj; subst hj; simp [Addr.add]
  case c2 => intro u hu; simp at hu; subst hu; rfl
  case c3 => unfold maxLen; omega
  case c4 => omega
  case c5 => simp; omega
  intro v' w2 hown' hgrow _
  refine hK v' w2 ?_ (((Below.refl B w0).alloc hB _).grown hgrow (by simp; omega) (fun k hk => (World.ownsRow.lt hown k hk).1))
  unfold OwnB
  rw [byteCells_snoc]
  simpa using hown'

/-- 'string(b)'. -/
theorem run_string_own {B : Nat} {v : Value} {l : List UInt8} {w : World} (h : OwnB B v l w) (h0 : 0 < l.length) : (convert 26 9 v).run Try.prog w = .ok (.string ⟨l.toArray⟩) w := by
  rcases h.2 with ⟨_, h1⟩ | ⟨g, cap, cur, rfl, hb, hc, hn, hm, hsz, ht⟩
  · omega
  · refine run_convert_bytes_back w 26 9 5 ⟨g, 0, none⟩ cap l Try.underlying26 Try.underlying5 Try.underlying9 fun j hj => ?_
    have e1 : (Addr.add ⟨g, 0, none⟩ j : Addr) = ⟨g, j, none⟩ := by simp only [Addr.add]; split <;> simp_all
    rw [e1, Lib.cell_of_heap hc]
    have e2 : (cur.toList.take (l.length * 1))[j]? = (Lib.byteCells l)[j]? := by rw [ht]
    rw [List.getElem?_take_of_lt (by omega)] at e2
    simpa [Lib.byteCells, hj] using e2

set_option maxHeartbeats 1000000 in
theorem quote_any (s : ByteArray) (w : World) (hs : s.size ≤ 524288) :
    Calls Try.prog 13 #[.string s] w fun e w' => e = .returned (.string ⟨(quote s.data.toList).toArray⟩) ∧ Below w.heap.size w w' := by
  obtain ⟨i0, hi, hz0, hz1, hz2⟩ := info_parts Try.info5
  have hlen : ∀ k, (body (s.data.toList.take k)).length ≤ 1048576 := fun k => by
    have h1 := body_length (s.data.toList.take k)
    have h2 : (s.data.toList.take k).length ≤ s.data.toList.length := List.length_take_le' _ _
    have h3 : s.data.toList.length = s.size := by simp
    omega
  go_enter Try.func13, Try.ntmps13
  go_wp2_with (refine wpList_make_own _ rfl _ _ 26 rfl w.heap.size 5 i0 (.int .u8 0) 1 Try.underlying26 hi hz0 hz1 .i64 .i64 _ (2 * s.size + 2) rfl rfl ?c0 ?c1 ?c2 ?c3 ?_)
  case c0 => omega
  case c1 => rw [hz2]; omega
  case c2 => unfold maxLen; omega
  case c3 => exact Nat.le_refl _
  intro w1 hw1 hg1
  have O1 : OwnB w.heap.size (.slice (some ⟨w.heap.size, 0, none⟩) 0 (2 * s.size + 2)) [] w1 := hw1
  have b1 : Below w.heap.size w w1 := (Below.refl _ w).grown hg1 (Nat.le_refl _) (fun k hk => by cases hk)
  clear hw1 hg1
  generalize Value.slice (some ⟨w.heap.size, 0, none⟩) 0 (2 * s.size + 2) = v1 at O1 ⊢
  go_wp2_with (at_builtin; refine law_append_byte rfl (.tmp 11) (.tmp 12) rfl w.heap.size v1 [] 34 34 ?d0 w1 rfl rfl O1 ?d1 ?d2 ?_)
  case d0 => rfl
  case d1 => decide
  case d2 => exact b1.size
  intro v2 w2 O2 b2
  have b2' := b1.trans b2
  clear O1 b1 b2
  go_wp2
  go_loopw [3, 4] (fun v i wr => ∃ k : Nat, k ≤ s.size ∧ i = .int .i64 k ∧ OwnB w.heap.size v (34 :: body (s.data.toList.take k)) wr ∧ Below w.heap.size w wr) (fun v i wr => s.size - (intOf i).toNat)
  case atStart => exact ⟨0, Nat.zero_le _, rfl, O2, b2'⟩
  case round =>
    clear O2 b2'
    obtain ⟨k, hk, rfl, OR, bR⟩ := hrel
    have hlk := hlen k
    have hsz := bR.size
    by_cases hlt : k < s.size
    · have HT : Hid (body (s.data.toList.take (k + 1)) = body (s.data.toList.take k) ++ esc s[k]) := by
        unfold Hid
        rw [take_snoc s k hlt, body_snoc]
      generalize hL : body (s.data.toList.take k) = L at OR HT hlk
      have HL := hide hL
      clear hL
      by_cases h1 : (s[k].toNat : Int) = 34 ∨ (s[k].toNat : Int) = 92
      · have HE : Hid (esc s[k] = [92, s[k]]) := by unfold Hid esc; rw [if_pos h1]
        rcases h1 with h1 | h1
        · have e1 : ((s[k].toNat : Int) == 34) = true := by rw [h1]; rfl
          have HV := hide h1
          clear h1
          go_wp2_with (at_builtin; refine law_append_byte rfl (.tmp 29) (.tmp 30) rfl w.heap.size _ (34 :: L) 92 92 ?d0 wr rfl rfl OR ?d1 ?d2 ?_)
          case d0 => rfl
          case d1 => simp only [List.length_cons]; omega
          case d2 => exact bR.size
          intro v3 w3 O3 b3
          have b3' := bR.trans b3
          have hsz3 := b3'.size
          clear OR bR b3
          go_wp2_with (at_builtin; refine law_append_byte rfl (.tmp 32) (.tmp 34) rfl w.heap.size v3 (34 :: (L ++ [92])) s[k] _ ?d0 w3 rfl rfl O3 ?d1 ?d2 ?_)
          case d0 => first | rfl | exact (unhide HV).symm
          case d1 => simp only [List.length_cons, List.length_append, List.length_nil]; omega
          case d2 => exact b3'.size
          intro v4 w4 O4 b4
          have b4' := b3'.trans b4
          clear O3 b3' b4
          go_wp2
          go_roundw
          case rel => exact ⟨k + 1, by omega, by go_num, by rw [unhide HT, unhide HE]; simpa using O4, b4'⟩
          case measure => simp [intOf]; omega
        · have e1 : ((s[k].toNat : Int) == 34) = false := by rw [h1]; rfl
          have e2 : ((s[k].toNat : Int) == 92) = true := by rw [h1]; rfl
          have HV := hide h1
          clear h1
          go_wp2_with (at_builtin; refine law_append_byte rfl (.tmp 29) (.tmp 30) rfl w.heap.size _ (34 :: L) 92 92 ?d0 wr rfl rfl OR ?d1 ?d2 ?_)
          case d0 => rfl
          case d1 => simp only [List.length_cons]; omega
          case d2 => exact bR.size
          intro v3 w3 O3 b3
          have b3' := bR.trans b3
          have hsz3 := b3'.size
          clear OR bR b3
          go_wp2_with (at_builtin; refine law_append_byte rfl (.tmp 32) (.tmp 34) rfl w.heap.size v3 (34 :: (L ++ [92])) s[k] _ ?d0 w3 rfl rfl O3 ?d1 ?d2 ?_)
          case d0 => first | rfl | exact (unhide HV).symm
          case d1 => simp only [List.length_cons, List.length_append, List.length_nil]; omega
          case d2 => exact b3'.size
          intro v4 w4 O4 b4
          have b4' := b3'.trans b4
          clear O3 b3' b4
          go_wp2
          go_roundw
          case rel => exact ⟨k + 1, by omega, by go_num, by rw [unhide HT, unhide HE]; simpa using O4, b4'⟩
          case measure => simp [intOf]; omega
      · have HE : Hid (esc s[k] = [s[k]]) := by unfold Hid esc; rw [if_neg h1]
        have e1 : ((s[k].toNat : Int) == 34) = false := beq_eq_false_iff_ne.2 fun h => h1 (.inl h)
        have e2 : ((s[k].toNat : Int) == 92) = false := beq_eq_false_iff_ne.2 fun h => h1 (.inr h)
        have H1 := hide h1
        clear h1
        go_wp2_with (at_builtin; refine law_append_byte rfl (.tmp 32) (.tmp 34) rfl w.heap.size _ (34 :: L) s[k] _ ?d0 wr rfl rfl OR ?d1 ?d2 ?_)
        case d0 => rfl
        case d1 => simp only [List.length_cons]; omega
        case d2 => exact bR.size
        intro v4 w4 O4 b4
        have b4' := bR.trans b4
        clear OR bR b4
        go_wp2
        go_roundw
        case rel => exact ⟨k + 1, by omega, by go_num, by rw [unhide HT, unhide HE]; simpa using O4, b4'⟩
        case measure => simp [intOf]; omega
    · have HT : Hid (s.data.toList.take k = s.data.toList) := List.take_of_length_le (by simp; omega)
      have OR' : OwnB w.heap.size u3 (34 :: body s.data.toList) wr := by rw [← unhide HT]; exact OR
      rw [unhide HT] at hlk
      clear OR
      go_wp2_with (at_builtin; refine law_append_byte rfl (.tmp 36) (.tmp 37) rfl w.heap.size _ (34 :: body s.data.toList) 34 34 ?d0 wr rfl rfl OR' ?d1 ?d2 ?_)
      case d0 => rfl
      case d1 => simp only [List.length_cons]; omega
      case d2 => exact bR.size
      intro v4 w4 O4 b4
      have b4' := bR.trans b4
      have HC := run_string_own O4 (by simp)
      clear OR' bR b4 O4
      go_wp2
      go_ret
      exact ⟨rfl, b4'⟩
end Go.Proofs.Qxb6603692a
