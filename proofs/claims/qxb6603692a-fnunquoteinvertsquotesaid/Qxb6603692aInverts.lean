import Derived.Test.Qxb6603692aUnquote
namespace Go.Proofs.Qxb6603692a
open Go.RowKit
set_option linter.unusedVariables false

theorem zzUnquote_any (s : ByteArray) (w : World) (hs : s.size ≤ 524288) (hp : pr s = true) :
    Calls Try.prog 9 #[.string (qb s)] w fun e w' => e = .returned (.tuple #[.string s, .bool true]) ∧ Below w.heap.size w w' := by
  have H1 := hide (unquote_any s w hs hp)
  clear hp
  go_enter Try.func9, Try.ntmps9
  go_wp2_with fail
  refine (unhide H1).mono ?_
  rintro e w3 ⟨rfl, b3⟩
  go_wp2
  go_ret2
  exact ⟨rfl, b3⟩

theorem bytes_any (s : ByteArray) (w : World) (hs : s.size ≤ maxLen) : Calls Try.prog 11 #[.string s] w fun e w' => e = .returned (.bool (decide (s.size ≤ 1048576))) ∧ w' = w := by
  unfold maxLen at hs
  by_cases h : s.size ≤ 1048576
  · have e : decide (s.size ≤ 1048576) = true := decide_eq_true h
    rw [e]
    clear e
    go_enter Try.func11, Try.ntmps11
    go_wp2
    go_ret
    exact ⟨rfl, rfl⟩
  · have e : decide (s.size ≤ 1048576) = false := decide_eq_false h
    rw [e]
    clear e
    go_enter Try.func11, Try.ntmps11
    go_wp2
    go_ret
    exact ⟨rfl, rfl⟩

set_option maxHeartbeats 1000000 in
theorem law_any (s : ByteArray) (w : World) (hs : s.size ≤ maxLen) :
    Calls Try.prog 4 #[.string s] w fun e w' => e = .returned (.bool true) ∧ Below w.heap.size w w' := by
  have H0 := hide (bytes_any s w hs)
  have HP := hide (printable_any s w hs)
  unfold maxLen at hs
  by_cases h1 : s.size ≤ 524288
  · have d1 : decide (s.size ≤ 1048576) = true := decide_eq_true (by omega)
    rw [d1] at H0
    clear d1
    by_cases hp : pr s = true
    · have HPR := hide hp
      rw [hp] at HP
      clear hp
      have HQ := hide (quote_any s w h1)
      have HU := hide (fun w1 => zzUnquote_any s w1 h1 (unhide HPR))
      go_enter Try.func4, Try.ntmps4
      go_wp2_with fail
      refine (unhide H0).mono ?_
      rintro e w1 ⟨rfl, hw⟩
      rw [hw]
      clear hw
      go_wp2_with fail
      refine (unhide HP).mono ?_
      rintro e w1 ⟨rfl, hw⟩
      rw [hw]
      clear hw
      go_wp2_with fail
      refine (unhide HQ).mono ?_
      rintro e w2 ⟨rfl, b2⟩
      go_wp2_with fail
      refine (unhide HU w2).mono ?_
      rintro e w3 ⟨rfl, b3⟩
      have b3' : Below w.heap.size w w3 := b2.trans (b3.mono b2.size)
      clear b2 b3
      go_wp2
      go_ret
      exact ⟨rfl, b3'⟩
    · rw [Bool.not_eq_true] at hp
      rw [hp] at HP
      clear hp
      go_enter Try.func4, Try.ntmps4
      go_wp2_with fail
      refine (unhide H0).mono ?_
      rintro e w1 ⟨rfl, hw⟩
      rw [hw]
      clear hw
      go_wp2_with fail
      refine (unhide HP).mono ?_
      rintro e w1 ⟨rfl, hw⟩
      rw [hw]
      clear hw
      go_wp2
      go_ret
      exact ⟨rfl, Below.refl _ _⟩
  · by_cases h2 : s.size ≤ 1048576
    · have d1 : decide (s.size ≤ 1048576) = true := decide_eq_true h2
      rw [d1] at H0
      clear d1
      go_enter Try.func4, Try.ntmps4
      go_wp2_with fail
      refine (unhide H0).mono ?_
      rintro e w1 ⟨rfl, hw⟩
      rw [hw]
      clear hw
      go_wp2
      go_ret
      exact ⟨rfl, Below.refl _ _⟩
    · have d1 : decide (s.size ≤ 1048576) = false := decide_eq_false h2
      rw [d1] at H0
      clear d1
      go_enter Try.func4, Try.ntmps4
      go_wp2_with fail
      refine (unhide H0).mono ?_
      rintro e w1 ⟨rfl, hw⟩
      rw [hw]
      clear hw
      go_wp2
      go_ret
      exact ⟨rfl, Below.refl _ _⟩
end Go.Proofs.Qxb6603692a
