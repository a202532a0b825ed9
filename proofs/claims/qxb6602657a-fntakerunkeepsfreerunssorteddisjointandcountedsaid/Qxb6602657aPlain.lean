/-
  THE PLAIN LAW of 'FnTakeRunKeepsFreeRunsSortedDisjointAndCounted': no Go in sight.
-/
import Derived.Test.Qxb6602657aMem
namespace Go.Proofs.Qxb6602657a

/-- run j does not run past the last page number, and ends at or before the next one starts -/
def okAt (n : Nat) (S P : Nat → Int) (j : Nat) : Prop := S j + P j ≤ 18446744073709551615 ∧ (j + 1 < n → S j + P j ≤ S (j + 1))
/-- sorted and disjoint -/
def SD (n : Nat) (S P : Nat → Int) : Prop := ∀ j, j < n → okAt n S P j
/-- all numbers within their kinds -/
def InKind (n : Nat) (S P : Nat → Int) : Prop := ∀ j, j < n → (0 ≤ S j ∧ S j ≤ 18446744073709551615) ∧ (0 ≤ P j ∧ P j ≤ 4294967295)
def sumTo (P : Nat → Int) : Nat → Int
  | 0 => 0
  | k + 1 => sumTo P k + P k

theorem sumTo_bd {n : Nat} {S P : Nat → Int} (h : InKind n S P) : ∀ k, k ≤ n → 0 ≤ sumTo P k ∧ sumTo P k ≤ (k : Int) * 4294967295
  | 0, _ => by simp [sumTo]
  | k + 1, hk => by
    have h1 := sumTo_bd h k (by omega)
    have h2 := (h k (by omega)).2
    simp only [sumTo]
    omega

theorem SD.apart {n : Nat} {S P : Nat → Int} (h : SD n S P) (hk : InKind n S P) (a : Nat) : ∀ b, a < b → b < n → S a + P a ≤ S b
  | 0, h1, _ => by omega
  | b + 1, h1, h2 => by
    by_cases e : a = b
    · subst e
      exact (h a (by omega)).2 h2
    · have h3 := SD.apart h hk a b (by omega) (by omega)
      have h4 := (h b (by omega)).2 h2
      have h5 := (hk b (by omega)).2.1
      omega

section
variable {n i : Nat} {m : Int} {S P : Nat → Int} (hk : InKind n S P) (hS : SD n S P) (hi : i < n) (hm0 : 0 ≤ m) (hm : m ≤ P i)

theorem cut_start (hk : InKind n S P) (hS : SD n S P) (hi : i < n) (hm0 : 0 ≤ m) (hm : m ≤ P i) : IntKind.u64.wrap (S i + m) = S i + m := by
  have h1 := (hk i hi).1
  have h2 := (hS i hi).1
  rw [IntKind.wrap_u64]
  omega

theorem out_inKind (hk : InKind n S P) (hS : SD n S P) (hi : i < n) (hm0 : 0 ≤ m) (hm : m ≤ P i) : InKind (outN n i m P) (outS i m S P) (outP i m P) := by
  intro j hj
  have e := cut_start hk hS hi hm0 hm
  unfold outN outS outP at *
  by_cases hP : P i = m
  · simp only [hP, if_true, skip] at hj ⊢
    by_cases hji : j < i
    · simp only [if_pos hji]; exact hk j (by omega)
    · simp only [if_neg hji]; exact hk (j + 1) (by omega)
  · simp only [hP, if_false] at hj ⊢
    by_cases hji : j = i
    · subst hji
      simp only [if_true]
      rw [e]
      have h1 := hk j hi
      have h2 := (hS j hi).1
      omega
    · simp only [if_neg hji]; exact hk j (by omega)

theorem out_SD (hk : InKind n S P) (hS : SD n S P) (hi : i < n) (hm0 : 0 ≤ m) (hm : m ≤ P i) : SD (outN n i m P) (outS i m S P) (outP i m P) := by
  intro j hj
  have e := cut_start hk hS hi hm0 hm
  unfold okAt
  unfold outN outS outP at *
  by_cases hP : P i = m
  · simp only [hP, if_true, skip] at hj ⊢
    by_cases hji : j < i
    · simp only [if_pos hji]
      refine ⟨(hS j (by omega)).1, fun h => ?_⟩
      by_cases hj1 : j + 1 < i
      · simp only [if_pos hj1]; exact (hS j (by omega)).2 (by omega)
      · simp only [if_neg hj1]; exact hS.apart hk j (j + 1 + 1) (by omega) (by omega)
    · simp only [if_neg hji, show ¬ j + 1 < i by omega, if_false]
      exact ⟨(hS (j + 1) (by omega)).1, fun h => (hS (j + 1) (by omega)).2 (by omega)⟩
  · simp only [hP, if_false] at hj ⊢
    by_cases hji : j = i
    · subst hji
      simp only [if_true, show ¬ j + 1 = j by omega, if_false]
      rw [e]
      have h2 := hS j hi
      unfold okAt at h2
      refine ⟨by omega, fun h => ?_⟩
      have := h2.2 h
      omega
    · simp only [if_neg hji]
      refine ⟨(hS j (by omega)).1, fun h => ?_⟩
      have h2 := (hS j (by omega)).2 h
      by_cases hj1 : j + 1 = i
      · simp only [if_pos hj1]
        rw [e]
        rw [hj1] at h2
        omega
      · simp only [if_neg hj1]; exact h2

theorem out_apart (hk : InKind n S P) (hS : SD n S P) (hi : i < n) (hm0 : 0 ≤ m) (hm : m ≤ P i) (j : Nat) (hj : j < outN n i m P) : outS i m S P j + outP i m P j ≤ S i ∨ S i + m ≤ outS i m S P j := by
  have e := cut_start hk hS hi hm0 hm
  unfold outN at hj
  unfold outS outP
  by_cases hP : P i = m
  · simp only [hP, if_true, skip] at hj ⊢
    by_cases hji : j < i
    · simp only [if_pos hji]
      exact .inl (hS.apart hk j i hji hi)
    · simp only [if_neg hji]
      have := hS.apart hk i (j + 1) (by omega) (by omega)
      exact .inr (by omega)
  · simp only [hP, if_false] at hj ⊢
    by_cases hji : j = i
    · subst hji
      simp only [if_true]
      exact .inr (by omega)
    · simp only [if_neg hji]
      rcases Nat.lt_or_gt_of_ne hji with h | h
      · exact .inl (hS.apart hk j i h hi)
      · have := hS.apart hk i j h (by omega)
        exact .inr (by omega)

theorem sumTo_skip (i : Nat) (P : Nat → Int) : ∀ k, sumTo (skip i P) k = if k ≤ i then sumTo P k else sumTo P (k + 1) - P i
  | 0 => by simp [sumTo]
  | k + 1 => by
    simp only [sumTo, sumTo_skip i P k]
    by_cases h : k ≤ i
    · rw [if_pos h]
      by_cases h2 : k + 1 ≤ i
      · rw [if_pos h2]; simp [skip, show k < i by omega]
      · have : k = i := by omega
        subst this
        rw [if_neg h2]
        simp [skip]
        omega
    · rw [if_neg h, if_neg (by omega)]
      simp [skip, show ¬ k < i by omega]
      omega
theorem sumTo_put (i : Nat) (P : Nat → Int) (x : Int) : ∀ k, sumTo (fun j => if j = i then x else P j) k = if k ≤ i then sumTo P k else sumTo P k - P i + x
  | 0 => by simp [sumTo]
  | k + 1 => by
    simp only [sumTo, sumTo_put i P x k]
    by_cases h : k ≤ i
    · rw [if_pos h]
      by_cases h2 : k + 1 ≤ i
      · rw [if_pos h2, if_neg (by omega)]
      · have : k = i := by omega
        subst this
        rw [if_neg h2, if_pos rfl]
        omega
    · rw [if_neg h, if_neg (by omega), if_neg (by omega)]
      omega
theorem out_sum (hi : i < n) : sumTo (outP i m P) (outN n i m P) + m = sumTo P n := by
  unfold outN outP
  by_cases hP : P i = m
  · simp only [hP, if_true]
    rw [sumTo_skip]
    by_cases h : n - 1 ≤ i
    · have : n = i + 1 := by omega
      subst this
      rw [if_pos (by omega)]
      simp [sumTo, hP]
    · rw [if_neg h, show n - 1 + 1 = n by omega, hP]
      omega
  · simp only [hP, if_false]
    rw [sumTo_put, if_neg (by omega)]
    omega
end
end Go.Proofs.Qxb6602657a
