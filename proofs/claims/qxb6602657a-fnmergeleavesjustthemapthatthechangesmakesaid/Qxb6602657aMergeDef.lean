/-
  What merge computes, on lists: no Go in sight.
-/
import Derived.Lib.Bytealg
namespace Go.Proofs.Qxb6602657a

/-- what a change lays -/
def ins (d : List UInt8 × List UInt8 × Bool) : List (List UInt8 × List UInt8) := if d.2.2 then [] else [(d.1, d.2.1)]
def goM (e : List UInt8 × List UInt8) (k : List (List UInt8 × List UInt8 × Bool) → List (List UInt8 × List UInt8)) : List (List UInt8 × List UInt8 × Bool) → List (List UInt8 × List UInt8)
  | [] => e :: k []
  | d :: C => if Lib.compareBytes e.1 d.1 < 0 then e :: k (d :: C) else if Lib.compareBytes e.1 d.1 = 0 then ins d ++ k C else ins d ++ goM e k C
/-- the merged entries -/
def mergeL : List (List UInt8 × List UInt8) → List (List UInt8 × List UInt8 × Bool) → List (List UInt8 × List UInt8)
  | [] => fun C => C.flatMap ins
  | e :: E => goM e (mergeL E)

theorem mergeL_nil : mergeL [] [] = [] := rfl
theorem mergeL_left (e : List UInt8 × List UInt8) (E : List (List UInt8 × List UInt8)) : mergeL (e :: E) [] = e :: mergeL E [] := rfl
theorem mergeL_right (d : List UInt8 × List UInt8 × Bool) (C : List (List UInt8 × List UInt8 × Bool)) : mergeL [] (d :: C) = ins d ++ mergeL [] C := rfl
theorem mergeL_lt {e : List UInt8 × List UInt8} {E : List (List UInt8 × List UInt8)} {d : List UInt8 × List UInt8 × Bool} {C : List (List UInt8 × List UInt8 × Bool)} (h : Lib.compareBytes e.1 d.1 < 0) : mergeL (e :: E) (d :: C) = e :: mergeL E (d :: C) := by
  show goM e (mergeL E) (d :: C) = _
  rw [goM, if_pos h]
theorem mergeL_eq {e : List UInt8 × List UInt8} {E : List (List UInt8 × List UInt8)} {d : List UInt8 × List UInt8 × Bool} {C : List (List UInt8 × List UInt8 × Bool)} (h : Lib.compareBytes e.1 d.1 = 0) : mergeL (e :: E) (d :: C) = ins d ++ mergeL E C := by
  show goM e (mergeL E) (d :: C) = _
  rw [goM, if_neg (by omega), if_pos h]
theorem mergeL_gt {e : List UInt8 × List UInt8} {E : List (List UInt8 × List UInt8)} {d : List UInt8 × List UInt8 × Bool} {C : List (List UInt8 × List UInt8 × Bool)} (h : 0 < Lib.compareBytes e.1 d.1) : mergeL (e :: E) (d :: C) = ins d ++ mergeL (e :: E) C := by
  show goM e (mergeL E) (d :: C) = _
  rw [goM, if_neg (by omega), if_neg (by omega)]
  rfl
end Go.Proofs.Qxb6602657a
