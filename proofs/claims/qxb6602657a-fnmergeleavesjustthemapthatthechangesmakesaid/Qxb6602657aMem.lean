/-
  Memory, for the walks of this seat: a slice of the call's own, made by 'make'; rows of runs (two cells an element). Nothing of the program stands here.
-/
import Derived.WalkKit
import Derived.WalkSpells
import Derived.WalkLawsBesides
import Derived.Deep.OwnRows
import Derived.Lib.LazyBuf
import Derived.ArgAppend
namespace Go.Proofs.Qxb6602657a
open Go.RowKit

theorem hide {p : Prop} (h : p) : Hid p := h
theorem unhide {p : Prop} (h : Hid p) : p := h

/-- 'make([]T, n)': a new row of zero values at the heap's end, the world under a name of its own. -/
theorem wpList_make_is {P : Program} (w : World) {ops : Array Oper} {rest : List Oper} {o : Oper} {a : Act} {Q : Exit → Act → World → Prop}
    (hg : o.guard = none) (l c : Operand) (t : TypeId) (hop : o.op = Op.makeSlice t l c)
    (e : TypeId) (z : Value) (size bytes : Nat) (h1 : P.underlying t = some (.slice e)) (hinfo : (P.info? e).map (fun i => (i.zero, i.size, i.bytes)) = some (some z, size, bytes))
    (kl kc : IntKind) (n : Nat) (hl : a.eval l = .int kl (n : Int)) (hc : a.eval c = .int kc (n : Int)) (b2 : bytes * n ≤ 281474976710656) (b3 : n ≤ 9223372036854775807)
    (hK : ∀ w', w'.rowIs w.heap.size e (n * size) (fun j => z.cells[j % z.cells.size]!) → Below w.heap.size w w' → w'.heap.size = w.heap.size + 1 → wpList P ops Q rest (a.put o.dst (.slice (some ⟨w.heap.size, 0, none⟩) n n)) w') :
    wpList P ops Q (o :: rest) a w := by
  obtain ⟨i, hi, hz0, hz1, hz2⟩ := info_parts hinfo
  refine wpList_plain hg fun K hK' => ?_
  have hb' : (i.bytes : Int) * (n : Int) ≤ 281474976710656 := by
    have h : ((i.bytes * n : Nat) : Int) ≤ 281474976710656 := by rw [hz2]; omega
    rwa [Int.natCast_mul] at h
  have hrun := run_make (P := P) w t e i z h1 hi hz0 kl kc n n (by omega) (Int.le_refl _) hb' (by omega)
  simp only [Int.toNat_natCast] at hrun
  unfold Oper.wp
  simp [execOp, hop, hl, hc, hrun, Result.andThen]
  refine hK' _ _ (hK _ ?_ ((Below.refl _ _).alloc (Nat.le_refl _) _) (by simp))
  refine ⟨_, Go.Deep.blk_alloc_new _ _, by rw [size_madeCells, hz1], fun j hj => ?_⟩
  simp [madeCells, hj, hz1]

/-! ### what a store into one row leaves -/
theorem grownBy_setCell (w : World) (g o : Nat) (v : Value) : w.grownBy (w.setCell ⟨g, o, none⟩ v) (some g) :=
  ⟨rfl, rfl, rfl, by rw [Go.Deep.nblk_setCell]; exact Nat.le_refl _, fun k _ hk => Go.Deep.blk_setCell_other _ _ _ _ (fun e => hk (by rw [e]))⟩
theorem grownBy_trans {w w' w'' : World} {row : Option Nat} (h : w.grownBy w' row) (k : w'.grownBy w'' row) : w.grownBy w'' row :=
  ⟨k.os.trans h.os, k.tape.trans h.tape, k.output.trans h.output, Nat.le_trans h.size k.size, fun i hi hn => (k.block i (Nat.lt_of_lt_of_le hi h.size) hn).trans (h.block i hi hn)⟩
theorem grownBy_setCells (g : Nat) : ∀ (vs : List Value) (o : Nat) (w : World), w.grownBy (w.setCells g o vs) (some g)
  | [], _, w => World.grownBy.refl w _
  | v :: r, o, w => grownBy_trans (grownBy_setCell w g o v) (grownBy_setCells g r (o + 1) _)
theorem size_setCells (g : Nat) : ∀ (vs : List Value) (o : Nat) (w : World), (w.setCells g o vs).heap.size = w.heap.size
  | [], _, _ => rfl
  | v :: r, o, w => by rw [World.setCells, size_setCells g r (o + 1) _, Go.Deep.nblk_setCell]

theorem grownBy_new {w w' : World} {row : Option Nat} (h : w.grownBy w' row) {a : Addr} (ha : w.heap.size ≤ a.block) (v : Value) : w.grownBy (w'.setCell a v) row :=
  ⟨h.os, h.tape, h.output, by rw [Go.Deep.nblk_setCell]; exact h.size, fun k hk hn => (Go.Deep.blk_setCell_other _ _ _ _ (by omega)).trans (h.block k hk hn)⟩
theorem below_grown {w w' : World} {g : Nat} (h : w.grownBy w' (some g)) (hg : g ≤ w.heap.size) : Below g w w' :=
  ⟨h.os, h.tape, h.output, h.size, fun k hk => h.block k (by omega) (by simp; omega)⟩

/-! ### runs: two cells an element -/
/-- n runs lie from cell 'off' of block b on. -/
def RunsAt (w : World) (b off n : Nat) (S P : Nat → Int) : Prop :=
  ∀ i, i < n → w.cell? ⟨b, off + i * 2, none⟩ = some (.int .u64 (S i)) ∧ w.cell? ⟨b, off + i * 2 + 1, none⟩ = some (.int .u32 (P i))

/-- Block B is a row of the call's own, of room for n runs, of which the first k are laid. -/
def OwnRuns (w : World) (B : Nat) (t : TypeId) (n k : Nat) (S P : Nat → Int) : Prop :=
  ∃ f, w.rowIs B t (n * 2) f ∧ ∀ i, i < k → f (i * 2) = .int .u64 (S i) ∧ f (i * 2 + 1) = .int .u32 (P i)

theorem OwnRuns.start {w : World} {B : Nat} {t : TypeId} {n : Nat} {f : Nat → Value} (S P : Nat → Int) (h : w.rowIs B t (n * 2) f) : OwnRuns w B t n 0 S P :=
  ⟨f, h, fun i hi => absurd hi (by omega)⟩
theorem OwnRuns.alike {w w' : World} {B : Nat} {t : TypeId} {n k : Nat} {S P : Nat → Int} (h : OwnRuns w B t n k S P) (e : w'.heap[B]? = w.heap[B]?) : OwnRuns w' B t n k S P := by
  obtain ⟨f, hf, hc⟩ := h
  exact ⟨f, hf.of_block e, hc⟩
theorem OwnRuns.lt {w : World} {B : Nat} {t : TypeId} {n k : Nat} {S P : Nat → Int} (h : OwnRuns w B t n k S P) : B < w.heap.size := by
  obtain ⟨f, hf, _⟩ := h
  exact hf.lt
theorem OwnRuns.below {w w' : World} {B D : Nat} {t : TypeId} {n k : Nat} {S P : Nat → Int} (h : OwnRuns w B t n k S P) (hb : Below D w w') (hB : B < D) : OwnRuns w' B t n k S P :=
  h.alike (hb.block B hB)
theorem OwnRuns.room {w : World} {B : Nat} {t : TypeId} {n k : Nat} {S P : Nat → Int} (h : OwnRuns w B t n k S P) (j : Nat) (hj : j < n) :
    (∃ v, w.cell? ⟨B, j * 2, none⟩ = some v) ∧ (∃ v, w.cell? ⟨B, j * 2 + 1, none⟩ = some v) ∧ w.frozen? ⟨B, j * 2, none⟩ = false ∧ w.frozen? ⟨B, j * 2 + 1, none⟩ = false := by
  obtain ⟨f, hf, _⟩ := h
  exact ⟨⟨_, hf.cell (by omega)⟩, ⟨_, hf.cell (by omega)⟩, hf.frozen _, hf.frozen _⟩
theorem OwnRuns.cells {w : World} {B : Nat} {t : TypeId} {n k : Nat} {S P : Nat → Int} (h : OwnRuns w B t n k S P) (hk : k ≤ n) : RunsAt w B 0 k S P := by
  obtain ⟨f, hf, hc⟩ := h
  intro i hi
  rw [Nat.zero_add]
  exact ⟨by rw [hf.cell (by omega), (hc i hi).1], by rw [hf.cell (by omega), (hc i hi).2]⟩
theorem OwnRuns.step {w : World} {B : Nat} {t : TypeId} {n k : Nat} {S P : Nat → Int} (h : OwnRuns w B t n k S P) (s p : Int) (hs : S k = s) (hp : P k = p) :
    OwnRuns ((w.setCell ⟨B, k * 2, none⟩ (.int .u64 s)).setCell ⟨B, k * 2 + 1, none⟩ (.int .u32 p)) B t n (k + 1) S P := by
  obtain ⟨f, hf, hc⟩ := h
  refine ⟨_, (hf.set (k * 2) (.int .u64 s)).set (k * 2 + 1) (.int .u32 p), fun i hi => ?_⟩
  by_cases e : i = k
  · subst e
    simp [hs, hp]
  · have h1 := hc i (by omega)
    rw [if_neg (by omega), if_neg (by omega), if_neg (by omega), if_neg (by omega)]
    exact h1
/-- both cells of element i are laid anew -/
theorem OwnRuns.put {w : World} {B : Nat} {t : TypeId} {n k : Nat} {S P : Nat → Int} (h : OwnRuns w B t n k S P) (i : Nat) (s p : Int) :
    OwnRuns ((w.setCell ⟨B, i * 2, none⟩ (.int .u64 s)).setCell ⟨B, i * 2 + 1, none⟩ (.int .u32 p)) B t n k (fun j => if j = i then s else S j) (fun j => if j = i then p else P j) := by
  obtain ⟨f, hf, hc⟩ := h
  refine ⟨_, (hf.set (i * 2) (.int .u64 s)).set (i * 2 + 1) (.int .u32 p), fun j hj => ?_⟩
  by_cases e : j = i
  · subst e
    simp
  · have h1 := hc j hj
    rw [if_neg (by omega), if_neg (by omega), if_neg (by omega), if_neg (by omega)]
    simpa [e] using h1
theorem OwnRuns.alloc {w : World} {B : Nat} {t : TypeId} {n k : Nat} {S P : Nat → Int} (h : OwnRuns w B t n k S P) (o : Obj) : OwnRuns (w.alloc o) B t n k S P :=
  h.alike (Go.Deep.blk_alloc_lt _ _ _ h.lt)
theorem OwnRuns.congr {w : World} {B : Nat} {t : TypeId} {n k : Nat} {S P S' P' : Nat → Int} (h : OwnRuns w B t n k S P) (e : ∀ i, i < k → S i = S' i ∧ P i = P' i) : OwnRuns w B t n k S' P' := by
  obtain ⟨f, hf, hc⟩ := h
  exact ⟨f, hf, fun i hi => by rw [← (e i hi).1, ← (e i hi).2]; exact hc i hi⟩
theorem RunsAt.below {w w' : World} {B b off n : Nat} {S P : Nat → Int} (h : RunsAt w b off n S P) (hb : Below B w w') (hB : b < B) : RunsAt w' b off n S P :=
  fun i hi => ⟨(hb.cell (p := ⟨b, off + i * 2, none⟩) hB).trans (h i hi).1, (hb.cell (p := ⟨b, off + i * 2 + 1, none⟩) hB).trans (h i hi).2⟩
theorem RunsAt.other {w : World} {b off n : Nat} {S P : Nat → Int} (h : RunsAt w b off n S P) {a : Addr} (ha : b ≠ a.block) (v : Value) : RunsAt (w.setCell a v) b off n S P := by
  have e : (w.setCell a v).heap[b]? = w.heap[b]? := Go.Deep.blk_setCell_other _ _ _ _ ha
  exact fun i hi => ⟨(World.cell?_of_block (a := ⟨b, _, none⟩) e).trans (h i hi).1, (World.cell?_of_block (a := ⟨b, _, none⟩) e).trans (h i hi).2⟩
theorem RunsAt.congr {w : World} {b off n : Nat} {S P S' P' : Nat → Int} (h : RunsAt w b off n S P) (e : ∀ i, i < n → S i = S' i ∧ P i = P' i) : RunsAt w b off n S' P' :=
  fun i hi => by rw [← (e i hi).1, ← (e i hi).2]; exact h i hi

/-! ### 'append(want, r)' within the capacity, over a row of runs -/
theorem run_append_run {P : Program} (w : World) (t ty e : TypeId) (i : TypeInfo) (h1 : P.underlying t = some (.slice e)) (h2 : P.info? e = some i) (h4 : i.size = 2)
    (g k cap : Nat) (S Pg : Nat → Int) (hO : OwnRuns w g e cap k S Pg) (hk : k < cap) (ad : Addr) (c : Nat) (hc0 : w.cell? ad = some (.int .u64 (S k))) (hc1 : w.cell? (ad.add 1) = some (.int .u32 (Pg k))) :
    ∃ w', (Builtin.append_ #[t, t] ty #[.slice (some ⟨g, 0, none⟩) k cap, .slice (some ad) 1 c]).run P w = .ok (.slice (some ⟨g, 0, none⟩) (k + 1) cap) w' ∧ OwnRuns w' g e cap (k + 1) S Pg ∧ w.grownBy w' (some g) ∧ w'.heap.size = w.heap.size := by
  obtain ⟨⟨v1, c1⟩, ⟨v2, c2⟩, f1, f2⟩ := hO.room k hk
  have hrun := run_append_room_cells (P := P) w t ty e i h1 h2 g 0 k cap ad 1 c [.int .u64 (S k), .int .u32 (Pg k)] (by simp [h4]) (by
      intro j u hu
      match j, hu with
      | 0, hu => simp at hu; subst hu; rw [show ad.add 0 = ad from rfl]; exact hc0
      | 1, hu => simp at hu; subst hu; exact hc1
      | j + 2, hu => simp at hu) (by intro u hu; simp at hu; rcases hu with rfl | rfl <;> rfl) (by omega)
    (by
      intro j hj
      rw [h4, Nat.zero_add]
      match j, hj with
      | 0, _ => rw [Nat.add_zero, c1]; rfl
      | 1, _ => rw [c2]; rfl)
    (by
      intro j hj
      rw [h4, Nat.zero_add]
      match j, hj with
      | 0, _ => exact f1
      | 1, _ => exact f2)
  refine ⟨_, hrun, ?_, grownBy_setCells _ _ _ _, size_setCells _ _ _ _⟩
  rw [h4, Nat.zero_add]
  exact hO.step _ _ rfl rfl
/-- .. in a region that keeps its order -/
theorem wpList_append_run {P : Program} (w : World) {ops : Array Oper} {rest : List Oper} {o : Oper} {a : Act} {Q : Exit → Act → World → Prop}
    (hg : o.guard = none) (s x : Operand) (t : TypeId) (hop : o.op = Op.call { callee := Callee.builtin Builtin.append, args := #[s, x], argTypes := #[t, t] })
    (e : TypeId) (i : TypeInfo) (h1 : P.underlying t = some (.slice e)) (h2 : P.info? e = some i) (h4 : i.size = 2)
    (g k cap : Nat) (S Pg : Nat → Int) (hs : a.eval s = .slice (some ⟨g, 0, none⟩) k cap) (hO : OwnRuns w g e cap k S Pg) (hk : k < cap) (ad : Addr) (c : Nat) (hx : a.eval x = .slice (some ad) 1 c) (hc0 : w.cell? ad = some (.int .u64 (S k))) (hc1 : w.cell? (ad.add 1) = some (.int .u32 (Pg k)))
    (hK : ∀ w', OwnRuns w' g e cap (k + 1) S Pg → w.grownBy w' (some g) → w'.heap.size = w.heap.size → wpList P ops Q rest (a.put o.dst (.slice (some ⟨g, 0, none⟩) (k + 1) cap)) w') :
    wpList P ops Q (o :: rest) a w := by
  refine wpList_plain hg fun K hK' => ?_
  obtain ⟨w', hrun, r1, r2, r3⟩ := run_append_run (P := P) w t o.type e i h1 h2 h4 g k cap S Pg hO hk ad c hc0 hc1
  unfold Oper.wp
  simp [execOp, hop, resolve, invoke, builtin, hs, hx, hrun, Result.andThen]
  exact hK' _ _ (hK w' r1 r2 r3)
/-- .. as one step of a region that draws its order -/
theorem step_append_run {P : Program} {ops : Array Oper} {o : Oper} {a : Act} {w : World} {K : Act → World → Prop} {Q : Exit → Act → World → Prop} {E : Prop}
    (hg : o.guard = none) (s x : Operand) (t : TypeId) (hop : o.op = Op.call { callee := Callee.builtin Builtin.append, args := #[s, x], argTypes := #[t, t] })
    (e : TypeId) (i : TypeInfo) (h1 : P.underlying t = some (.slice e)) (h2 : P.info? e = some i) (h4 : i.size = 2)
    (g k cap : Nat) (S Pg : Nat → Int) (hs : a.eval s = .slice (some ⟨g, 0, none⟩) k cap) (hO : OwnRuns w g e cap k S Pg) (hk : k < cap) (ad : Addr) (c : Nat) (hx : a.eval x = .slice (some ad) 1 c) (hc0 : w.cell? ad = some (.int .u64 (S k))) (hc1 : w.cell? (ad.add 1) = some (.int .u32 (Pg k)))
    (hK : ∀ w', OwnRuns w' g e cap (k + 1) S Pg → w.grownBy w' (some g) → w'.heap.size = w.heap.size → K (a.put o.dst (.slice (some ⟨g, 0, none⟩) (k + 1) cap)) w') :
    if Region.wanted o (yielded ops a.tmps) = true then Oper.wp P o a w K Q else E := by
  have hw : Region.wanted o (yielded ops a.tmps) = true := by simp [Region.wanted, hg]
  rw [if_pos hw]
  obtain ⟨w', hrun, r1, r2, r3⟩ := run_append_run (P := P) w t o.type e i h1 h2 h4 g k cap S Pg hO hk ad c hc0 hc1
  unfold Oper.wp
  simp [execOp, hop, resolve, invoke, builtin, hs, hx, hrun, Result.andThen]
  exact hK w' r1 r2 r3
/-- 'make([]T, 0, n)' -/
theorem wpList_make_room {P : Program} (w : World) {ops : Array Oper} {rest : List Oper} {o : Oper} {a : Act} {Q : Exit → Act → World → Prop}
    (hg : o.guard = none) (l c : Operand) (t : TypeId) (hop : o.op = Op.makeSlice t l c)
    (e : TypeId) (z : Value) (size bytes : Nat) (h1 : P.underlying t = some (.slice e)) (hinfo : (P.info? e).map (fun i => (i.zero, i.size, i.bytes)) = some (some z, size, bytes))
    (kl kc : IntKind) (n : Nat) (hl : a.eval l = .int kl 0) (hc : a.eval c = .int kc (n : Int)) (b2 : bytes * n ≤ 281474976710656) (b3 : n ≤ 9223372036854775807)
    (hK : ∀ w', w'.rowIs w.heap.size e (n * size) (fun j => z.cells[j % z.cells.size]!) → Below w.heap.size w w' → w'.heap.size = w.heap.size + 1 → wpList P ops Q rest (a.put o.dst (.slice (some ⟨w.heap.size, 0, none⟩) 0 n)) w') :
    wpList P ops Q (o :: rest) a w := by
  obtain ⟨i, hi, hz0, hz1, hz2⟩ := info_parts hinfo
  refine wpList_plain hg fun K hK' => ?_
  have hb' : (i.bytes : Int) * (n : Int) ≤ 281474976710656 := by
    have h : ((i.bytes * n : Nat) : Int) ≤ 281474976710656 := by rw [hz2]; omega
    rwa [Int.natCast_mul] at h
  have hrun := run_make (P := P) w t e i z h1 hi hz0 kl kc 0 n (by omega) (by omega) hb' (by omega)
  simp only [Int.toNat_natCast, Int.toNat_zero] at hrun
  unfold Oper.wp
  simp [execOp, hop, hl, hc, hrun, Result.andThen]
  refine hK' _ _ (hK _ ?_ ((Below.refl _ _).alloc (Nat.le_refl _) _) (by simp))
  refine ⟨_, Go.Deep.blk_alloc_new _ _, by rw [size_madeCells, hz1], fun j hj => ?_⟩
  simp [madeCells, hj, hz1]

/-! ### 'slices.Delete(s, i, i+1)' over a row of runs -/
/-- what stands at j once element i is gone -/
def skip (i : Nat) (S : Nat → Int) (j : Nat) : Int := if j < i then S j else S (j + 1)
theorem skip_put (i : Nat) (S : Nat → Int) (s : Int) (j : Nat) : skip i (fun j => if j = i then s else S j) j = skip i S j := by
  unfold skip
  by_cases h : j < i
  · simp only [if_pos h]; rw [if_neg (by omega)]
  · simp only [if_neg h]; rw [if_neg (by omega)]
/-- the cells behind element i -/
def behind (f : Nat → Value) (i n : Nat) : List Value := (List.range ((n - (i + 1)) * 2)).map fun t => f ((i + 1) * 2 + t)
theorem behind_length (f : Nat → Value) (i n : Nat) : (behind f i n).length = (n - (i + 1)) * 2 := by simp [behind]
theorem behind_get (f : Nat → Value) (i n t : Nat) (h : t < (n - (i + 1)) * 2) : (behind f i n)[t]? = some (f ((i + 1) * 2 + t)) := by simp [behind, h]

/-- 'clear(s)' at a slice of one element of two cells. -/
theorem run_clear_one2 {P : Program} (w : World) (t e ty : TypeId) (z1 z2 : Value) (ht : P.underlying t = some (.slice e)) (hv : ∀ w, (zeroValue e).run P w = .ok (.agg #[z1, z2]) w) (h1 : z1.oneCell' = true) (h2 : z2.oneCell' = true) (b o c : Nat)
    (hc : ∀ j, j < 2 → (w.cell? ⟨b, o + j, none⟩).isSome = true) (hf : ∀ j, j < 2 → w.frozen? ⟨b, o + j, none⟩ = false) :
    (Builtin.clear_ #[t] ty #[.slice (some ⟨b, o, none⟩) 1 c]).run P w = .ok (.tuple #[]) (w.setCells b o [z1, z2]) := by
  have hst := run_storeCells_cells (P := P) b o [z1, z2] 0 w (by simpa using hc) (by simpa using hf) (by intro v hv'; simp at hv'; rcases hv' with rfl | rfl <;> assumption)
  simp only [Nat.add_zero] at hst
  have hzc : (Builtin.zeroCells (Value.agg #[z1, z2]).cells 1).toList = [z1, z2] := by simp [Builtin.zeroCells, Value.cells, List.range_succ]
  simp [Builtin.clear_, run_underlying ht, hv, hzc, hst]

/-- what the row holds behind the deletion -/
theorem del_runs {w : World} {g n i : Nat} {t : TypeId} {f : Nat → Value} {S P : Nat → Int} (hi : i < n) (hf : w.rowIs g t (n * 2) f) (hc : ∀ j, j < n → f (j * 2) = .int .u64 (S j) ∧ f (j * 2 + 1) = .int .u32 (P j)) (z : List Value) :
    OwnRuns ((w.setCells g (i * 2) (behind f i n)).setCells g ((n - 1) * 2) z) g t n (n - 1) (skip i S) (skip i P) := by
  have h1 := rowIs_setCells (behind f i n) (i * 2) w f hf
  have h2 := rowIs_setCells z ((n - 1) * 2) _ _ h1
  refine ⟨_, h2, fun j hj => ?_⟩
  have e0 : ∀ t, t < (n - 1) * 2 → (if i * 2 ≤ t ∧ t < i * 2 + (behind f i n).length then (behind f i n)[t - i * 2]?.getD default else f t) = if t < i * 2 then f t else f (t + 2) := by
    intro t ht
    rw [behind_length]
    by_cases h : t < i * 2
    · rw [if_neg (by omega), if_pos h]
    · rw [if_pos (by omega), if_neg h, behind_get _ _ _ _ (by omega)]
      show f _ = f _
      congr 1
      omega
  have nz : ∀ t, t < (n - 1) * 2 → ¬ ((n - 1) * 2 ≤ t ∧ t < (n - 1) * 2 + z.length) := fun t ht => by omega
  simp only [if_neg (nz (j * 2) (by omega)), if_neg (nz (j * 2 + 1) (by omega)), e0 (j * 2) (by omega), e0 (j * 2 + 1) (by omega)]
  by_cases h : j < i
  · rw [if_pos (by omega), if_pos (by omega)]
    simpa [skip, h] using hc j (by omega)
  · rw [if_neg (by omega), if_neg (by omega)]
    have := hc (j + 1) (by omega)
    simpa [skip, h, show (j + 1) * 2 = j * 2 + 2 by omega] using this

/-! ### what 'takeRun(runs, i, m)' leaves of the runs, m ≤ P i -/
def outN (n i : Nat) (m : Int) (P : Nat → Int) : Nat := if P i = m then n - 1 else n
def outS (i : Nat) (m : Int) (S P : Nat → Int) : Nat → Int := if P i = m then skip i S else fun j => if j = i then IntKind.u64.wrap (S i + m) else S j
def outP (i : Nat) (m : Int) (P : Nat → Int) : Nat → Int := if P i = m then skip i P else fun j => if j = i then P i - m else P j
/-- how many of the wanted runs the first k of the given ones make -/
def upTo (i : Nat) (m : Int) (P : Nat → Int) (k : Nat) : Nat := if i < k ∧ P i = m then k - 1 else k
theorem upTo_le (i : Nat) (m : Int) (P : Nat → Int) (k : Nat) : upTo i m P k ≤ k := by unfold upTo; split <;> omega
theorem upTo_all (n i : Nat) (m : Int) (P : Nat → Int) (h : i < n) : upTo i m P n = outN n i m P := by unfold upTo outN; by_cases e : P i = m <;> simp [e, h]
theorem upTo_other (i : Nat) (m : Int) (S P : Nat → Int) (k : Nat) (h : k ≠ i) : outS i m S P (upTo i m P k) = S k ∧ outP i m P (upTo i m P k) = P k ∧ upTo i m P (k + 1) = upTo i m P k + 1 := by
  unfold upTo outS outP
  by_cases e : P i = m
  · by_cases hk : i < k
    · simp only [e, hk, show i < k + 1 by omega, and_self, if_true, skip]
      rw [if_neg (by omega), if_neg (by omega), show k - 1 + 1 = k by omega]
      exact ⟨rfl, rfl, by omega⟩
    · simp only [e, hk, show ¬ i < k + 1 by omega, false_and, if_false, if_true, skip]
      rw [if_pos (by omega), if_pos (by omega)]
      simp
  · simp [e, h]
theorem upTo_here (i : Nat) (m : Int) (S P : Nat → Int) (h : P i ≠ m) : outS i m S P (upTo i m P i) = IntKind.u64.wrap (S i + m) ∧ outP i m P (upTo i m P i) = P i - m ∧ upTo i m P (i + 1) = upTo i m P i + 1 := by
  simp [upTo, outS, outP, h]
theorem upTo_gone (i : Nat) (m : Int) (P : Nat → Int) (h : P i = m) : upTo i m P (i + 1) = upTo i m P i := by
  simp [upTo, h]
theorem outN_le (n i : Nat) (m : Int) (P : Nat → Int) : outN n i m P ≤ n := by unfold outN; split <;> omega
end Go.Proofs.Qxb6602657a
