/-
  Memory, for the walks of this seat. Nothing of the program stands here.
-/
import Derived.WalkKit
import Derived.WalkSpells
import Derived.WalkLawsBesides
import Derived.Deep.OwnRows
import Derived.Deep.QuietTactic
namespace Go.Proofs.Qxb6602742a
open Go.RowKit

theorem hide {p : Prop} (h : p) : Hid p := h
theorem unhide {p : Prop} (h : Hid p) : p := h

/-- 'make([]T, n)': a new row of zero values at the heap's end, the world under a name of its own. -/
theorem wpList_make_is {P : Program} (w : World) {ops : Array Oper} {rest : List Oper} {o : Oper} {a : Act} {Q : Exit → Act → World → Prop}
    (hg : o.guard = none) (l c : Operand) (t : TypeId) (hop : o.op = Op.makeSlice t l c)
    (e : TypeId) (z : Value) (size bytes : Nat) (h1 : P.underlying t = some (.slice e)) (hinfo : (P.info? e).map (fun i => (i.zero, i.size, i.bytes)) = some (some z, size, bytes))
    (kl kc : IntKind) (n : Nat) (hl : a.eval l = .int kl (n : Int)) (hc : a.eval c = .int kc (n : Int)) (b2 : bytes * n ≤ 281474976710656) (b3 : n ≤ 9223372036854775807)
    (hK : ∀ w', w'.rowIs w.heap.size e (n * size) (fun j => z.cells[j % z.cells.size]!) → Below w.heap.size w w' → w'.heap.size = w.heap.size + 1 → wpList P ops Q rest (a.put o.dst (.slice (some ⟨w.heap.size, 0, none⟩) n n)) w') :
    wpList P ops Q (o :: rest) a w := by
  obtain ⟨i, hi, hz0, hz1, hz2⟩ := info_parts hinfo
  refine wpList_plain hg fun K hK' => ?_
  have hb' : (i.bytes : Int) * (n : Int) ≤ 281474976710656 := by
    have h : ((i.bytes * n : Nat) : Int) ≤ 281474976710656 := by rw [hz2]; omega
    rwa [Int.natCast_mul] at h
  have hrun := run_make (P := P) w t e i z h1 hi hz0 kl kc n n (by omega) (Int.le_refl _) hb' (by omega)
  simp only [Int.toNat_natCast] at hrun
  unfold Oper.wp
  simp [execOp, hop, hl, hc, hrun, Result.andThen]
  refine hK' _ _ (hK _ ?_ ((Below.refl _ _).alloc (Nat.le_refl _) _) (by simp))
  refine ⟨_, Go.Deep.blk_alloc_new _ _, by rw [size_madeCells, hz1], fun j hj => ?_⟩
  simp [madeCells, hj, hz1]

/-- wr is w but for some draws -/
def Drawn (w wr : World) : Prop := ∃ q, wr = w.drewN q
theorem Drawn.refl (w : World) : Drawn w w := ⟨0, rfl⟩
theorem Drawn.more {w wr : World} (h : Drawn w wr) (n : Nat) : Drawn w (wr.drewN n) := by
  obtain ⟨q, rfl⟩ := h
  exact ⟨q + n, by rw [World.drewN_drewN]⟩
theorem Drawn.cell {w wr : World} (h : Drawn w wr) {a : Addr} {v : Value} (hc : w.cell? a = some v) : wr.cell? a = some v := by
  obtain ⟨q, rfl⟩ := h
  exact hc
theorem Drawn.below {w wr : World} (h : Drawn w wr) : Below w.heap.size w wr := by
  obtain ⟨q, rfl⟩ := h
  exact below_drewN (Below.refl _ _) q

theorem cell_below {w w' : World} (hb : Below w.heap.size w w') {b off : Nat} {v : Value} (h : w.cell? ⟨b, off, none⟩ = some v) : w'.cell? ⟨b, off, none⟩ = some v :=
  (hb.cell (p := ⟨b, off, none⟩) (block_lt_of_cell h)).trans h

/-- n numbers lie where the slice leads -/
def IntsAt (w : World) (a : Option Addr) (n : Nat) (Z : Nat → Int) : Prop := n = 0 ∨ ∃ b off, a = some ⟨b, off, none⟩ ∧ ∀ i, i < n → w.cell? ⟨b, off + i, none⟩ = some (.int .i64 (Z i))
theorem IntsAt.below {w w' : World} {a : Option Addr} {n : Nat} {Z : Nat → Int} (h : IntsAt w a n Z) (hb : Below w.heap.size w w') : IntsAt w' a n Z := by
  rcases h with h | ⟨b, off, ha, hc⟩
  · exact .inl h
  · exact .inr ⟨b, off, ha, fun i hi => cell_below hb (hc i hi)⟩
/-- Block B is a row of the call's own, of n numbers, of which the first k are laid. -/
def OwnInts (w : World) (B : Nat) (t : TypeId) (n k : Nat) (Z : Nat → Int) : Prop :=
  ∃ f, w.rowIs B t n f ∧ ∀ j, j < k → f j = .int .i64 (Z j)
theorem OwnInts.start {w : World} {B : Nat} {t : TypeId} {n : Nat} {f : Nat → Value} (Z : Nat → Int) (h : w.rowIs B t n f) : OwnInts w B t n 0 Z :=
  ⟨f, h, fun j hj => absurd hj (by omega)⟩
theorem OwnInts.room {w : World} {B : Nat} {t : TypeId} {n k : Nat} {Z : Nat → Int} (h : OwnInts w B t n k Z) (j : Nat) (hj : j < n) : (∃ v, w.cell? ⟨B, j, none⟩ = some v) ∧ w.frozen? ⟨B, j, none⟩ = false := by
  obtain ⟨f, hf, _⟩ := h
  exact ⟨⟨_, hf.cell hj⟩, hf.frozen _⟩
theorem OwnInts.step {w : World} {B : Nat} {t : TypeId} {n k : Nat} {Z : Nat → Int} (h : OwnInts w B t n k Z) : OwnInts (w.setCell ⟨B, k, none⟩ (.int .i64 (Z k))) B t n (k + 1) Z := by
  obtain ⟨f, hf, hc⟩ := h
  refine ⟨_, hf.set k _, fun j hj => ?_⟩
  by_cases e : j = k
  · subst e; simp
  · rw [if_neg e]; exact hc j (by omega)
theorem OwnInts.ints {w : World} {B : Nat} {t : TypeId} {n : Nat} {Z : Nat → Int} (h : OwnInts w B t n n Z) : IntsAt w (some ⟨B, 0, none⟩) n Z := by
  obtain ⟨f, hf, hc⟩ := h
  refine .inr ⟨B, 0, rfl, fun i hi => ?_⟩
  rw [Nat.zero_add, ← hc i hi]
  exact hf.cell hi
end Go.Proofs.Qxb6602742a
