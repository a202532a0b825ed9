/-
  THE WALKS of 'FnCriticalityIndexTable' (3) and 'FnCriticalityIndexOrder' (4), and of their callees.
-/
import Derived.Test.Qxb6602742aProg
import Derived.WalkKit
import Derived.OpenShut
namespace Go.Proofs.Qxb6602742a
open Go.RowKit
set_option linter.unusedVariables false

/-- a level's place -/
def idx (c : Int) : Int := if -2 ≤ c ∧ c ≤ 1 then c + 2 else 2

/-! ### ZZCriticalityIndex (7) -/
theorem index_in (c : Int) (w : World) (h1 : -2 ≤ c) (h2 : c ≤ 1) :
    Calls Try.prog 7 #[.int .i8 c] w fun e w' => e = .returned (.int .i64 (c + 2)) ∧ w' = w := by
  go_enter Try.func7, Try.ntmps7
  go_wp2
  go_ret
  exact ⟨rfl, rfl⟩
theorem index_low (c : Int) (w : World) (h1 : c < -2) :
    Calls Try.prog 7 #[.int .i8 c] w fun e w' => e = .returned (.int .i64 2) ∧ w' = w := by
  go_enter Try.func7, Try.ntmps7
  go_wp2
  go_ret
  exact ⟨rfl, rfl⟩
theorem index_high (c : Int) (w : World) (h1 : 1 < c) :
    Calls Try.prog 7 #[.int .i8 c] w fun e w' => e = .returned (.int .i64 2) ∧ w' = w := by
  have hd : decide (c ≤ 1) = false := by simp; omega
  go_enter Try.func7, Try.ntmps7
  go_wp2
  go_ret
  exact ⟨rfl, rfl⟩
theorem index_any (c : Int) (w : World) :
    Calls Try.prog 7 #[.int .i8 c] w fun e w' => e = .returned (.int .i64 (idx c)) ∧ w' = w := by
  unfold idx
  by_cases h1 : c < -2
  · rw [if_neg (by omega)]; exact index_low c w h1
  by_cases h2 : 1 < c
  · rw [if_neg (by omega)]; exact index_high c w h2
  · rw [if_pos (by omega)]; exact index_in c w (by omega) (by omega)
theorem index_const (w : World) :
    Calls Try.prog 7 #[.int .i8 0] w fun e w' => e = .returned (.int .i64 2) ∧ w' = w := index_any 0 w

/-! ### zzIndexModel (8) -/
theorem model_at (c : Int) (w : World) (h : c = -2 ∨ c = -1 ∨ c = 0 ∨ c = 1) :
    Calls Try.prog 8 #[.int .i8 c] w fun e w' => e = .returned (.int .i64 (c + 2)) ∧ w' = w := by
  rcases h with rfl | rfl | rfl | rfl
  all_goals
    go_enter Try.func8, Try.ntmps8
    go_wp2
    go_ret
    exact ⟨rfl, rfl⟩
theorem model_out (c : Int) (w : World) (h : c < -2 ∨ 1 < c) :
    Calls Try.prog 8 #[.int .i8 c] w fun e w' => e = .returned (.int .i64 2) ∧ w' = w := by
  have h1 : (c == -2) = false := by simp; omega
  have h2 : (c == -1) = false := by simp; omega
  have h3 : (c == 0) = false := by simp; omega
  have h4 : (c == 1) = false := by simp; omega
  clear h
  go_enter Try.func8, Try.ntmps8
  go_wp2
  go_ret
  exact ⟨rfl, rfl⟩
theorem model_any (c : Int) (w : World) :
    Calls Try.prog 8 #[.int .i8 c] w fun e w' => e = .returned (.int .i64 (idx c)) ∧ w' = w := by
  unfold idx
  by_cases h1 : c < -2 ∨ 1 < c
  · rw [if_neg (by omega)]; exact model_out c w h1
  · rw [if_pos (by omega)]; exact model_at c w (by omega)

/-! ### zzKnownLevel (9) -/
theorem known_yes (c : Int) (w : World) (h1 : -2 ≤ c) (h2 : c ≤ 1) :
    Calls Try.prog 9 #[.int .i8 c] w fun e w' => e = .returned (.bool true) ∧ w' = w := by
  go_enter Try.func9, Try.ntmps9
  go_wp2
  go_ret
  exact ⟨by simp [*], rfl⟩
theorem known_no (c : Int) (w : World) (h : c < -2 ∨ 1 < c) :
    Calls Try.prog 9 #[.int .i8 c] w fun e w' => e = .returned (.bool false) ∧ w' = w := by
  by_cases h1 : c < -2
  · have hd : decide (-2 ≤ c) = false := by simp; omega
    clear h
    go_enter Try.func9, Try.ntmps9
    go_wp2
    go_ret
    exact ⟨rfl, rfl⟩
  · have hd : decide (c ≤ 1) = false := by simp; omega
    have h2 : -2 ≤ c := by omega
    clear h
    go_enter Try.func9, Try.ntmps9
    go_wp2
    go_ret
    exact ⟨rfl, rfl⟩

theorem table (a0 : Int) (w : World) :
    Calls Try.prog 3 #[.int .i8 a0] w fun e w' => e = .returned (.bool true) ∧ Grown w w' := by
  have H7 : Hid (∀ w, Calls Try.prog 7 #[.int .i8 a0] w fun e w' => e = .returned (.int .i64 (idx a0)) ∧ w' = w) := fun w => index_any a0 w
  have H8 : Hid (∀ w, Calls Try.prog 8 #[.int .i8 a0] w fun e w' => e = .returned (.int .i64 (idx a0)) ∧ w' = w) := fun w => model_any a0 w
  go_enter Try.func3, Try.ntmps3
  go_wp2_with fail
  refine (H7.out _).mono ?_
  rintro e w1 ⟨rfl, hw⟩
  rw [hw]
  clear hw
  go_wp2_with fail
  refine (H8.out _).mono ?_
  rintro e w2 ⟨rfl, hw⟩
  rw [hw]
  clear hw
  go_wp2
  go_ret
  exact ⟨by simp, Grown.refl _⟩

/-- the law over two levels, their places and whether they are known told by contracts -/
theorem order_of (a b IA IB : Int) (ka kb : Bool) (w : World) (h1 : 0 ≤ IA) (h2 : IA ≤ 3) (h3 : 0 ≤ IB) (h4 : IB ≤ 3)
    (HA : Hid (∀ w, Calls Try.prog 7 #[.int .i8 a] w fun e w' => e = .returned (.int .i64 IA) ∧ w' = w)) (HB : Hid (∀ w, Calls Try.prog 7 #[.int .i8 b] w fun e w' => e = .returned (.int .i64 IB) ∧ w' = w))
    (KA : Hid (∀ w, Calls Try.prog 9 #[.int .i8 a] w fun e w' => e = .returned (.bool ka) ∧ w' = w)) (KB : Hid (∀ w, Calls Try.prog 9 #[.int .i8 b] w fun e w' => e = .returned (.bool kb) ∧ w' = w))
    (hcmp : ka = true → kb = true → (a < b ∧ IA < IB) ∨ (a = b ∧ IA = IB) ∨ (b < a ∧ IB < IA)) (hna : ka = false → (IA != 2) = false) (hnb : kb = false → (IB != 2) = false) :
    Calls Try.prog 4 #[.int .i8 a, .int .i8 b] w fun e w' => e = .returned (.bool true) ∧ Grown w w' := by
  have HC : Hid (∀ w, Calls Try.prog 7 #[.int .i8 0] w fun e w' => e = .returned (.int .i64 2) ∧ w' = w) := fun w => index_const w
  cases ka
  · have hna' := hna rfl
    clear hna hcmp
    cases kb
    · have hnb' := hnb rfl
      clear hnb
      go_enter Try.func4, Try.ntmps4
      go_wp2_with fail
      refine (HA.out _).mono ?_
      rintro e w1 ⟨rfl, hw⟩
      rw [hw]
      clear hw
      go_wp2_with fail
      refine (HB.out _).mono ?_
      rintro e w2 ⟨rfl, hw⟩
      rw [hw]
      clear hw
      go_wp2_with fail
      refine (HC.out _).mono ?_
      rintro e w3 ⟨rfl, hw⟩
      rw [hw]
      clear hw
      go_wp2_with fail
      refine (KA.out _).mono ?_
      rintro e w4 ⟨rfl, hw⟩
      rw [hw]
      clear hw
      go_wp2_with fail
      refine (KB.out _).mono ?_
      rintro e w5 ⟨rfl, hw⟩
      rw [hw]
      clear hw
      go_wp2
      go_ret
      exact ⟨rfl, Grown.refl _⟩
    · clear hnb
      go_enter Try.func4, Try.ntmps4
      go_wp2_with fail
      refine (HA.out _).mono ?_
      rintro e w1 ⟨rfl, hw⟩
      rw [hw]
      clear hw
      go_wp2_with fail
      refine (HB.out _).mono ?_
      rintro e w2 ⟨rfl, hw⟩
      rw [hw]
      clear hw
      go_wp2_with fail
      refine (HC.out _).mono ?_
      rintro e w3 ⟨rfl, hw⟩
      rw [hw]
      clear hw
      go_wp2_with fail
      refine (KA.out _).mono ?_
      rintro e w4 ⟨rfl, hw⟩
      rw [hw]
      clear hw
      go_wp2_with fail
      refine (KB.out _).mono ?_
      rintro e w5 ⟨rfl, hw⟩
      rw [hw]
      clear hw
      go_wp2
      go_ret
      exact ⟨rfl, Grown.refl _⟩
  · clear hna
    cases kb
    · have hnb' := hnb rfl
      clear hnb hcmp
      go_enter Try.func4, Try.ntmps4
      go_wp2_with fail
      refine (HA.out _).mono ?_
      rintro e w1 ⟨rfl, hw⟩
      rw [hw]
      clear hw
      go_wp2_with fail
      refine (HB.out _).mono ?_
      rintro e w2 ⟨rfl, hw⟩
      rw [hw]
      clear hw
      go_wp2_with fail
      refine (HC.out _).mono ?_
      rintro e w3 ⟨rfl, hw⟩
      rw [hw]
      clear hw
      go_wp2_with fail
      refine (KA.out _).mono ?_
      rintro e w4 ⟨rfl, hw⟩
      rw [hw]
      clear hw
      go_wp2_with fail
      refine (KB.out _).mono ?_
      rintro e w5 ⟨rfl, hw⟩
      rw [hw]
      clear hw
      go_wp2
      go_ret
      exact ⟨rfl, Grown.refl _⟩
    · clear hnb
      rcases hcmp rfl rfl with ⟨q1, q2⟩ | ⟨q1, q2⟩ | ⟨q1, q2⟩
      · clear hcmp
        have r1 : (a == b) = false := by simp; omega
        have r2 : (IA == IB) = false := by simp; omega
        go_enter Try.func4, Try.ntmps4
        go_wp2_with fail
        refine (HA.out _).mono ?_
        rintro e w1 ⟨rfl, hw⟩
        rw [hw]
        clear hw
        go_wp2_with fail
        refine (HB.out _).mono ?_
        rintro e w2 ⟨rfl, hw⟩
        rw [hw]
        clear hw
        go_wp2_with fail
        refine (HC.out _).mono ?_
        rintro e w3 ⟨rfl, hw⟩
        rw [hw]
        clear hw
        go_wp2_with fail
        refine (KA.out _).mono ?_
        rintro e w4 ⟨rfl, hw⟩
        rw [hw]
        clear hw
        go_wp2_with fail
        refine (KB.out _).mono ?_
        rintro e w5 ⟨rfl, hw⟩
        rw [hw]
        clear hw
        go_wp2
        go_ret
        exact ⟨rfl, Grown.refl _⟩
      · clear hcmp
        have r1 : (a == b) = true := by simp [q1]
        have r2 : (IA == IB) = true := by simp [q2]
        have r3 : decide (a < b) = false := by simp; omega
        have r4 : decide (IA < IB) = false := by simp; omega
        clear q1 q2
        go_enter Try.func4, Try.ntmps4
        go_wp2_with fail
        refine (HA.out _).mono ?_
        rintro e w1 ⟨rfl, hw⟩
        rw [hw]
        clear hw
        go_wp2_with fail
        refine (HB.out _).mono ?_
        rintro e w2 ⟨rfl, hw⟩
        rw [hw]
        clear hw
        go_wp2_with fail
        refine (HC.out _).mono ?_
        rintro e w3 ⟨rfl, hw⟩
        rw [hw]
        clear hw
        go_wp2_with fail
        refine (KA.out _).mono ?_
        rintro e w4 ⟨rfl, hw⟩
        rw [hw]
        clear hw
        go_wp2_with fail
        refine (KB.out _).mono ?_
        rintro e w5 ⟨rfl, hw⟩
        rw [hw]
        clear hw
        go_wp2
        go_ret
        exact ⟨rfl, Grown.refl _⟩
      · clear hcmp
        have r1 : (a == b) = false := by simp; omega
        have r2 : (IA == IB) = false := by simp; omega
        have r3 : decide (a < b) = false := by simp; omega
        have r4 : decide (IA < IB) = false := by simp; omega
        go_enter Try.func4, Try.ntmps4
        go_wp2_with fail
        refine (HA.out _).mono ?_
        rintro e w1 ⟨rfl, hw⟩
        rw [hw]
        clear hw
        go_wp2_with fail
        refine (HB.out _).mono ?_
        rintro e w2 ⟨rfl, hw⟩
        rw [hw]
        clear hw
        go_wp2_with fail
        refine (HC.out _).mono ?_
        rintro e w3 ⟨rfl, hw⟩
        rw [hw]
        clear hw
        go_wp2_with fail
        refine (KA.out _).mono ?_
        rintro e w4 ⟨rfl, hw⟩
        rw [hw]
        clear hw
        go_wp2_with fail
        refine (KB.out _).mono ?_
        rintro e w5 ⟨rfl, hw⟩
        rw [hw]
        clear hw
        go_wp2
        go_ret
        exact ⟨rfl, Grown.refl _⟩

theorem order (a b : Int) (w : World) :
    Calls Try.prog 4 #[.int .i8 a, .int .i8 b] w fun e w' => e = .returned (.bool true) ∧ Grown w w' := by
  have hI : ∀ c : Int, 0 ≤ idx c ∧ idx c ≤ 3 := fun c => by unfold idx; split <;> omega
  have hK : ∀ c : Int, ∃ k : Bool, (∀ w, Calls Try.prog 9 #[.int .i8 c] w fun e w' => e = .returned (.bool k) ∧ w' = w) ∧ (k = true → idx c = c + 2) ∧ (k = false → idx c = 2) := fun c => by
    by_cases h : c < -2 ∨ 1 < c
    · exact ⟨false, fun w => known_no c w h, (fun h => by cases h), fun _ => by unfold idx; rw [if_neg (by omega)]⟩
    · exact ⟨true, fun w => known_yes c w (by omega) (by omega), fun _ => by unfold idx; rw [if_pos (by omega)], (fun h => by cases h)⟩
  obtain ⟨ka, KA, ta, fa⟩ := hK a
  obtain ⟨kb, KB, tb, fb⟩ := hK b
  refine order_of a b (idx a) (idx b) ka kb w (hI a).1 (hI a).2 (hI b).1 (hI b).2 (fun w => index_any a w) (fun w => index_any b w) KA KB ?_ ?_ ?_
  · intro h1 h2
    rw [ta h1, tb h2]
    omega
  · intro h
    rw [fa h]
    rfl
  · intro h
    rw [fb h]
    rfl
end Go.Proofs.Qxb6602742a
