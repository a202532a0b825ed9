/-
  The order of byte strings, and ascending lists: no Go in sight.
-/
import Derived.Test.Qxb6602657aMergeDef
namespace Go.Proofs.Qxb6602657a

theorem cmp_swap : ∀ a b : List UInt8, Lib.compareBytes b a = - Lib.compareBytes a b
  | [], [] => rfl
  | [], _ :: _ => rfl
  | _ :: _, [] => rfl
  | x :: a, y :: b => by
    simp only [Lib.compareBytes]
    have ih := cmp_swap a b
    by_cases h1 : x < y
    · have h2 : ¬ y < x := UInt8.not_lt.2 (UInt8.le_of_lt h1)
      simp [h1, h2]
    · by_cases h2 : y < x
      · simp [h1, h2]
      · simp [h1, h2, ih]
theorem cmp_self (a : List UInt8) : Lib.compareBytes a a = 0 := by
  have := cmp_swap a a
  omega
theorem cmp_zero : ∀ a b : List UInt8, Lib.compareBytes a b = 0 → a = b
  | [], [], _ => rfl
  | [], _ :: _, h => by simp [Lib.compareBytes] at h
  | _ :: _, [], h => by simp [Lib.compareBytes] at h
  | x :: a, y :: b, h => by
    simp only [Lib.compareBytes] at h
    by_cases h1 : x < y
    · simp [h1] at h
    · by_cases h2 : y < x
      · simp [h1, h2] at h
      · simp only [h1, h2, if_false] at h
        rw [cmp_zero a b h, UInt8.le_antisymm (UInt8.not_lt.1 h2) (UInt8.not_lt.1 h1)]
theorem cmp_iff (a b : List UInt8) : Lib.compareBytes a b = 0 ↔ a = b := ⟨cmp_zero a b, fun h => by rw [h]; exact cmp_self b⟩
theorem cmp_trans : ∀ a b c : List UInt8, Lib.compareBytes a b < 0 → Lib.compareBytes b c < 0 → Lib.compareBytes a c < 0
  | [], [], _, h, _ => by simp [Lib.compareBytes] at h
  | [], _ :: _, [], _, h => by simp [Lib.compareBytes] at h
  | [], _ :: _, _ :: _, _, _ => by simp [Lib.compareBytes]
  | _ :: _, [], _, h, _ => by simp [Lib.compareBytes] at h
  | _ :: _, _ :: _, [], _, h => by simp [Lib.compareBytes] at h
  | x :: a, y :: b, z :: c, h1, h2 => by
    simp only [Lib.compareBytes] at h1 h2 ⊢
    by_cases xy : x < y
    · by_cases yz : y < z
      · simp [UInt8.lt_trans xy yz]
      · by_cases zy : z < y
        · simp [yz, zy] at h2
        · have : y = z := UInt8.le_antisymm (UInt8.not_lt.1 zy) (UInt8.not_lt.1 yz)
          subst this
          simp [xy]
    · by_cases yx : y < x
      · simp [xy, yx] at h1
      · have : x = y := UInt8.le_antisymm (UInt8.not_lt.1 yx) (UInt8.not_lt.1 xy)
        subst this
        simp only [xy, if_false] at h1
        by_cases yz : x < z
        · simp [yz]
        · by_cases zy : z < x
          · simp [yz, zy] at h2
          · simp only [yz, zy, if_false] at h2 ⊢
            exact cmp_trans a b c h1 h2

/-- a list of keys ascends -/
def Asc (K : List (List UInt8)) : Prop := K.Pairwise fun a b => Lib.compareBytes a b < 0
theorem asc_of_steps : ∀ K : List (List UInt8), (∀ (j : Nat) (a b : List UInt8), K[j]? = some a → K[j + 1]? = some b → Lib.compareBytes a b < 0) → Asc K
  | [], _ => List.Pairwise.nil
  | [a], _ => List.pairwise_singleton _ _
  | a :: b :: K, h => by
    have ih := asc_of_steps (b :: K) (fun j x y hx hy => h (j + 1) x y (by simpa using hx) (by simpa using hy))
    have hab := h 0 a b rfl rfl
    refine List.pairwise_cons.2 ⟨fun x hx => ?_, ih⟩
    rcases List.mem_cons.1 hx with rfl | hx
    · exact hab
    · exact cmp_trans a b x hab ((List.pairwise_cons.1 ih).1 x hx)
theorem Asc.lt {K : List (List UInt8)} (h : Asc K) {i j : Nat} {a b : List UInt8} (hi : K[i]? = some a) (hj : K[j]? = some b) (hij : i < j) : Lib.compareBytes a b < 0 := by
  obtain ⟨h1, rfl⟩ := List.getElem?_eq_some_iff.1 hi
  obtain ⟨h2, rfl⟩ := List.getElem?_eq_some_iff.1 hj
  exact List.pairwise_iff_getElem.1 h i j h1 h2 hij
end Go.Proofs.Qxb6602657a
