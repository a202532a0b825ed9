/-
  Memory, for the walk over merge: byte strings, rows of entries (two cells), rows of changes (three cells). Nothing of the program stands here.
-/
import Derived.Test.Qxb6602657aMem
import Derived.Lib.Bytealg
namespace Go.Proofs.Qxb6602657a
open Go.RowKit

/-- the slice value v holds the bytes l -/
def BytesAt (w : World) (v : Value) (l : List UInt8) : Prop :=
  ∃ a c, v = .slice a l.length c ∧ l.length ≤ 9223372036854775807 ∧ (l = [] ∨ ∃ b off, a = some ⟨b, off, none⟩ ∧ ∀ j x, l[j]? = some x → w.cell? ⟨b, off + j, none⟩ = some (.int .u8 (x.toNat : Int)))

theorem BytesAt.move {w w' : World} {v : Value} {l : List UInt8} (h : BytesAt w v l) (e : ∀ b off x, w.cell? ⟨b, off, none⟩ = some (.int .u8 x) → w'.cell? ⟨b, off, none⟩ = some (.int .u8 x)) : BytesAt w' v l := by
  obtain ⟨a, c, rfl, hm, h⟩ := h
  refine ⟨a, c, rfl, hm, ?_⟩
  rcases h with h | ⟨b, off, ha, hc⟩
  · exact .inl h
  · exact .inr ⟨b, off, ha, fun j x hx => e _ _ _ (hc j x hx)⟩
theorem cell_below {w w' : World} (hb : Below w.heap.size w w') {b off : Nat} {v : Value} (h : w.cell? ⟨b, off, none⟩ = some v) : w'.cell? ⟨b, off, none⟩ = some v :=
  (hb.cell (p := ⟨b, off, none⟩) (block_lt_of_cell h)).trans h
theorem BytesAt.below {w w' : World} {v : Value} {l : List UInt8} (h : BytesAt w v l) (hb : Below w.heap.size w w') : BytesAt w' v l :=
  h.move fun _ _ _ hc => cell_below hb hc
theorem BytesAt.nil (w : World) : BytesAt w (.slice none 0 0) [] := ⟨none, 0, rfl, by simp, .inl rfl⟩
/-- a store into a row that holds no byte -/
theorem BytesAt.store {w : World} {v : Value} {l : List UInt8} (h : BytesAt w v l) {B : Nat} {t : TypeId} {N : Nat} {f : Nat → Value} (hr : w.rowIs B t N f) (hf : ∀ j, j < N → ∀ x, f j ≠ .int .u8 x) (o : Nat) (u : Value) : BytesAt (w.setCell ⟨B, o, none⟩ u) v l := by
  refine h.move fun b off x hc => ?_
  by_cases e : b = B
  · subst e
    obtain ⟨c, hb, hn, hcc⟩ := hr
    have hcell : w.cell? ⟨b, off, none⟩ = c[off]? := cell_of_row w b off c t (0, 0) hb
    rw [hcell] at hc
    have hlt : off < N := by
      have := (Array.getElem?_eq_some_iff.1 hc).1
      omega
    rw [hcc off hlt] at hc
    exact absurd (by simpa using hc) (hf off hlt x)
  · exact (World.cell?_of_block (a := ⟨b, off, none⟩) (Go.Deep.blk_setCell_other _ _ _ _ e)).trans hc

/-! ### entries -/
/-- the slice value v holds the entries E -/
def EntsAt (w : World) (v : Value) (E : List (List UInt8 × List UInt8)) : Prop :=
  ∃ a c, v = .slice a E.length c ∧ E.length ≤ c ∧ c ≤ 9223372036854775807 ∧ (E = [] ∨ ∃ b off, a = some ⟨b, off, none⟩ ∧ ∀ j e, E[j]? = some e →
    ∃ v1 v2, w.cell? ⟨b, off + j * 2, none⟩ = some v1 ∧ w.cell? ⟨b, off + j * 2 + 1, none⟩ = some v2 ∧ BytesAt w v1 e.1 ∧ BytesAt w v2 e.2)
theorem EntsAt.below {w w' : World} {v : Value} {E : List (List UInt8 × List UInt8)} (h : EntsAt w v E) (hb : Below w.heap.size w w') : EntsAt w' v E := by
  obtain ⟨a, c, rfl, hc, hm, h⟩ := h
  refine ⟨a, c, rfl, hc, hm, ?_⟩
  rcases h with h | ⟨b, off, ha, h⟩
  · exact .inl h
  · refine .inr ⟨b, off, ha, fun j e he => ?_⟩
    obtain ⟨v1, v2, h1, h2, h3, h4⟩ := h j e he
    exact ⟨v1, v2, cell_below hb h1, cell_below hb h2, h3.below hb, h4.below hb⟩

/-- Block B is a row of the call's own, of room for n entries, of which E are laid. -/
def OwnEnts (w : World) (B : Nat) (t : TypeId) (n : Nat) (E : List (List UInt8 × List UInt8)) : Prop :=
  ∃ f, w.rowIs B t (n * 2) f ∧ (∀ j, j < n * 2 → ∀ x, f j ≠ .int .u8 x) ∧ E.length ≤ n ∧ ∀ j e, E[j]? = some e → BytesAt w (f (j * 2)) e.1 ∧ BytesAt w (f (j * 2 + 1)) e.2
theorem OwnEnts.start {w : World} {B : Nat} {t : TypeId} {n : Nat} {f : Nat → Value} (h : w.rowIs B t (n * 2) f) (hf : ∀ j x, f j ≠ .int .u8 x) : OwnEnts w B t n [] :=
  ⟨f, h, fun j _ => hf j, by simp, fun j e he => by simp at he⟩
theorem OwnEnts.lt {w : World} {B : Nat} {t : TypeId} {n : Nat} {E : List (List UInt8 × List UInt8)} (h : OwnEnts w B t n E) : B < w.heap.size := by
  obtain ⟨f, hf, _⟩ := h
  exact hf.lt
theorem OwnEnts.below {w w' : World} {B : Nat} {t : TypeId} {n : Nat} {E : List (List UInt8 × List UInt8)} (h : OwnEnts w B t n E) (hb : Below w.heap.size w w') : OwnEnts w' B t n E := by
  obtain ⟨f, hf, h1, h2, h3⟩ := h
  exact ⟨f, hf.of_block (hb.block B hf.lt), h1, h2, fun j e he => ⟨(h3 j e he).1.below hb, (h3 j e he).2.below hb⟩⟩
theorem OwnEnts.alloc {w : World} {B : Nat} {t : TypeId} {n : Nat} {E : List (List UInt8 × List UInt8)} (h : OwnEnts w B t n E) (o : Obj) : OwnEnts (w.alloc o) B t n E :=
  h.below ((Below.refl _ _).alloc (Nat.le_refl _) _)
theorem OwnEnts.drew {w : World} {B : Nat} {t : TypeId} {n : Nat} {E : List (List UInt8 × List UInt8)} (h : OwnEnts w B t n E) : OwnEnts w.drew B t n E :=
  h.below (Below.refl _ _).drew
theorem OwnEnts.room {w : World} {B : Nat} {t : TypeId} {n : Nat} {E : List (List UInt8 × List UInt8)} (h : OwnEnts w B t n E) (j : Nat) (hj : j < n) :
    (∃ v, w.cell? ⟨B, j * 2, none⟩ = some v) ∧ (∃ v, w.cell? ⟨B, j * 2 + 1, none⟩ = some v) ∧ w.frozen? ⟨B, j * 2, none⟩ = false ∧ w.frozen? ⟨B, j * 2 + 1, none⟩ = false := by
  obtain ⟨f, hf, _⟩ := h
  exact ⟨⟨_, hf.cell (by omega)⟩, ⟨_, hf.cell (by omega)⟩, hf.frozen _, hf.frozen _⟩
theorem BytesAt.not_byte {w : World} {v : Value} {l : List UInt8} (h : BytesAt w v l) (x : Int) : v ≠ .int .u8 x := by
  obtain ⟨a, c, rfl, _⟩ := h
  intro h
  cases h
theorem OwnEnts.step {w : World} {B : Nat} {t : TypeId} {n k : Nat} {E : List (List UInt8 × List UInt8)} (h : OwnEnts w B t n E) (hk : E.length = k) (hn : k < n) {v1 v2 : Value} {e : List UInt8 × List UInt8} (h1 : BytesAt w v1 e.1) (h2 : BytesAt w v2 e.2) :
    OwnEnts ((w.setCell ⟨B, k * 2, none⟩ v1).setCell ⟨B, k * 2 + 1, none⟩ v2) B t n (E ++ [e]) := by
  subst hk
  obtain ⟨f, hf, hnb, hl, hc⟩ := h
  have hf1 := hf.set (E.length * 2) v1
  have hnb1 : ∀ j, j < n * 2 → ∀ x, (if j = E.length * 2 then v1 else f j) ≠ .int .u8 x := by
    intro j hj x
    split
    · exact h1.not_byte x
    · exact hnb j hj x
  have hf2 := hf1.set (E.length * 2 + 1) v2
  have mv : ∀ {v : Value} {l : List UInt8}, BytesAt w v l → BytesAt ((w.setCell ⟨B, E.length * 2, none⟩ v1).setCell ⟨B, E.length * 2 + 1, none⟩ v2) v l := fun hb => (hb.store hf hnb _ _).store hf1 hnb1 _ _
  refine ⟨_, hf2, ?_, by simp; omega, ?_⟩
  · intro j hj x
    show (if j = _ then v2 else if j = _ then v1 else f j) ≠ _
    split
    · exact h2.not_byte x
    · exact hnb1 j hj x
  · intro j e' he'
    by_cases hj : j < E.length
    · rw [List.getElem?_append_left hj] at he'
      have := hc j e' he'
      rw [if_neg (by omega), if_neg (by omega), if_neg (by omega), if_neg (by omega)]
      exact ⟨mv this.1, mv this.2⟩
    · have hjl : j = E.length := by
        have := (List.getElem?_eq_some_iff.1 he').1
        simp at this
        omega
      subst hjl
      simp at he'
      subst he'
      simp
      exact ⟨mv h1, mv h2⟩
theorem OwnEnts.ents {w : World} {B : Nat} {t : TypeId} {n c : Nat} {E : List (List UInt8 × List UInt8)} (h : OwnEnts w B t n E) (hc : E.length ≤ c) (hm : c ≤ 9223372036854775807) : EntsAt w (.slice (some ⟨B, 0, none⟩) E.length c) E := by
  obtain ⟨f, hf, hnb, hl, h⟩ := h
  refine ⟨_, c, rfl, hc, hm, .inr ⟨B, 0, rfl, fun j e he => ?_⟩⟩
  have hj := (List.getElem?_eq_some_iff.1 he).1
  refine ⟨f (j * 2), f (j * 2 + 1), ?_, ?_, (h j e he).1, (h j e he).2⟩
  · rw [Nat.zero_add]; exact hf.cell (by omega)
  · rw [Nat.zero_add]; exact hf.cell (by omega)

/-! ### changes -/
def ChgsAt (w : World) (v : Value) (C : List (List UInt8 × List UInt8 × Bool)) : Prop :=
  ∃ a c, v = .slice a C.length c ∧ C.length ≤ c ∧ c ≤ 9223372036854775807 ∧ (C = [] ∨ ∃ b off, a = some ⟨b, off, none⟩ ∧ ∀ j e, C[j]? = some e →
    ∃ v1 v2, w.cell? ⟨b, off + j * 3, none⟩ = some v1 ∧ w.cell? ⟨b, off + j * 3 + 1, none⟩ = some v2 ∧ w.cell? ⟨b, off + j * 3 + 2, none⟩ = some (.bool e.2.2) ∧ BytesAt w v1 e.1 ∧ BytesAt w v2 e.2.1)
theorem ChgsAt.below {w w' : World} {v : Value} {C : List (List UInt8 × List UInt8 × Bool)} (h : ChgsAt w v C) (hb : Below w.heap.size w w') : ChgsAt w' v C := by
  obtain ⟨a, c, rfl, hc, hm, h⟩ := h
  refine ⟨a, c, rfl, hc, hm, ?_⟩
  rcases h with h | ⟨b, off, ha, h⟩
  · exact .inl h
  · refine .inr ⟨b, off, ha, fun j e he => ?_⟩
    obtain ⟨v1, v2, h1, h2, h3, h4, h5⟩ := h j e he
    exact ⟨v1, v2, cell_below hb h1, cell_below hb h2, cell_below hb h3, h4.below hb, h5.below hb⟩
def OwnChgs (w : World) (B : Nat) (t : TypeId) (n : Nat) (C : List (List UInt8 × List UInt8 × Bool)) : Prop :=
  ∃ f, w.rowIs B t (n * 3) f ∧ (∀ j, j < n * 3 → ∀ x, f j ≠ .int .u8 x) ∧ C.length ≤ n ∧ ∀ j e, C[j]? = some e → BytesAt w (f (j * 3)) e.1 ∧ BytesAt w (f (j * 3 + 1)) e.2.1 ∧ f (j * 3 + 2) = .bool e.2.2
theorem OwnChgs.start {w : World} {B : Nat} {t : TypeId} {n : Nat} {f : Nat → Value} (h : w.rowIs B t (n * 3) f) (hf : ∀ j x, f j ≠ .int .u8 x) : OwnChgs w B t n [] :=
  ⟨f, h, fun j _ => hf j, by simp, fun j e he => by simp at he⟩
theorem OwnChgs.lt {w : World} {B : Nat} {t : TypeId} {n : Nat} {C : List (List UInt8 × List UInt8 × Bool)} (h : OwnChgs w B t n C) : B < w.heap.size := by
  obtain ⟨f, hf, _⟩ := h
  exact hf.lt
theorem OwnChgs.below {w w' : World} {B : Nat} {t : TypeId} {n : Nat} {C : List (List UInt8 × List UInt8 × Bool)} (h : OwnChgs w B t n C) (hb : Below w.heap.size w w') : OwnChgs w' B t n C := by
  obtain ⟨f, hf, h1, h2, h3⟩ := h
  exact ⟨f, hf.of_block (hb.block B hf.lt), h1, h2, fun j e he => ⟨(h3 j e he).1.below hb, (h3 j e he).2.1.below hb, (h3 j e he).2.2⟩⟩
theorem OwnChgs.room {w : World} {B : Nat} {t : TypeId} {n : Nat} {C : List (List UInt8 × List UInt8 × Bool)} (h : OwnChgs w B t n C) (j : Nat) (hj : j < n) :
    (∃ v, w.cell? ⟨B, j * 3, none⟩ = some v) ∧ (∃ v, w.cell? ⟨B, j * 3 + 1, none⟩ = some v) ∧ (∃ v, w.cell? ⟨B, j * 3 + 2, none⟩ = some v) ∧ ∀ o, w.frozen? ⟨B, o, none⟩ = false := by
  obtain ⟨f, hf, _⟩ := h
  exact ⟨⟨_, hf.cell (by omega)⟩, ⟨_, hf.cell (by omega)⟩, ⟨_, hf.cell (by omega)⟩, fun o => hf.frozen _⟩
theorem OwnChgs.step {w : World} {B : Nat} {t : TypeId} {n k : Nat} {C : List (List UInt8 × List UInt8 × Bool)} (h : OwnChgs w B t n C) (hk : C.length = k) (hn : k < n) {v1 v2 : Value} {e : List UInt8 × List UInt8 × Bool} (h1 : BytesAt w v1 e.1) (h2 : BytesAt w v2 e.2.1) :
    OwnChgs (((w.setCell ⟨B, k * 3, none⟩ v1).setCell ⟨B, k * 3 + 1, none⟩ v2).setCell ⟨B, k * 3 + 2, none⟩ (.bool e.2.2)) B t n (C ++ [e]) := by
  subst hk
  obtain ⟨f, hf, hnb, hl, hc⟩ := h
  have hf1 := hf.set (C.length * 3) v1
  have hnb1 : ∀ j, j < n * 3 → ∀ x, (if j = C.length * 3 then v1 else f j) ≠ .int .u8 x := by
    intro j hj x
    split
    · exact h1.not_byte x
    · exact hnb j hj x
  have hf2 := hf1.set (C.length * 3 + 1) v2
  have hnb2 : ∀ j, j < n * 3 → ∀ x, (if j = C.length * 3 + 1 then v2 else if j = C.length * 3 then v1 else f j) ≠ .int .u8 x := by
    intro j hj x
    split
    · exact h2.not_byte x
    · exact hnb1 j hj x
  have hf3 := hf2.set (C.length * 3 + 2) (.bool e.2.2)
  have mv : ∀ {v : Value} {l : List UInt8}, BytesAt w v l → BytesAt (((w.setCell ⟨B, C.length * 3, none⟩ v1).setCell ⟨B, C.length * 3 + 1, none⟩ v2).setCell ⟨B, C.length * 3 + 2, none⟩ (.bool e.2.2)) v l := fun hb => ((hb.store hf hnb _ _).store hf1 hnb1 _ _).store hf2 hnb2 _ _
  refine ⟨_, hf3, ?_, by simp; omega, ?_⟩
  · intro j hj x
    show (if j = _ then Value.bool e.2.2 else if j = _ then v2 else if j = _ then v1 else f j) ≠ _
    split
    · intro h; cases h
    · exact hnb2 j hj x
  · intro j e' he'
    by_cases hj : j < C.length
    · rw [List.getElem?_append_left hj] at he'
      have := hc j e' he'
      rw [if_neg (by omega), if_neg (by omega), if_neg (by omega), if_neg (by omega), if_neg (by omega), if_neg (by omega), if_neg (by omega), if_neg (by omega), if_neg (by omega)]
      exact ⟨mv this.1, mv this.2.1, this.2.2⟩
    · have hjl : j = C.length := by
        have := (List.getElem?_eq_some_iff.1 he').1
        simp at this
        omega
      subst hjl
      simp at he'
      subst he'
      simp
      exact ⟨mv h1, mv h2⟩
theorem OwnChgs.chgs {w : World} {B : Nat} {t : TypeId} {n c : Nat} {C : List (List UInt8 × List UInt8 × Bool)} (h : OwnChgs w B t n C) (hc : C.length ≤ c) (hm : c ≤ 9223372036854775807) : ChgsAt w (.slice (some ⟨B, 0, none⟩) C.length c) C := by
  obtain ⟨f, hf, hnb, hl, h⟩ := h
  refine ⟨_, c, rfl, hc, hm, .inr ⟨B, 0, rfl, fun j e he => ?_⟩⟩
  have hj := (List.getElem?_eq_some_iff.1 he).1
  refine ⟨f (j * 3), f (j * 3 + 1), ?_, ?_, ?_, (h j e he).1, (h j e he).2.1⟩
  · rw [Nat.zero_add]; exact hf.cell (by omega)
  · rw [Nat.zero_add]; exact hf.cell (by omega)
  · rw [Nat.zero_add, ← (h j e he).2.2]; exact hf.cell (by omega)

/-! ### a row of bytes of the call's own -/
def OwnBytes (w : World) (B : Nat) (t : TypeId) (n : Nat) (l : List UInt8) : Prop :=
  ∃ f, w.rowIs B t n f ∧ l.length ≤ n ∧ ∀ j x, l[j]? = some x → f j = .int .u8 (x.toNat : Int)
theorem OwnBytes.start {w : World} {B : Nat} {t : TypeId} {n : Nat} {f : Nat → Value} (h : w.rowIs B t (n * 1) f) : OwnBytes w B t n [] :=
  ⟨f, by rw [Nat.mul_one] at h; exact h, by simp, fun j e he => by simp at he⟩
theorem OwnBytes.room {w : World} {B : Nat} {t : TypeId} {n : Nat} {l : List UInt8} (h : OwnBytes w B t n l) (j : Nat) (hj : j < n) : (∃ v, w.cell? ⟨B, j, none⟩ = some v) ∧ w.frozen? ⟨B, j, none⟩ = false := by
  obtain ⟨f, hf, _⟩ := h
  exact ⟨⟨_, hf.cell hj⟩, hf.frozen _⟩
theorem OwnBytes.step {w : World} {B : Nat} {t : TypeId} {n k : Nat} {l : List UInt8} (h : OwnBytes w B t n l) (hk : l.length = k) (hn : k < n) (x : UInt8) : OwnBytes (w.setCell ⟨B, k, none⟩ (.int .u8 (x.toNat : Int))) B t n (l ++ [x]) := by
  subst hk
  obtain ⟨f, hf, hl, hc⟩ := h
  refine ⟨_, hf.set l.length _, by simp; omega, fun j y hy => ?_⟩
  by_cases hj : j < l.length
  · rw [List.getElem?_append_left hj] at hy
    rw [if_neg (by omega)]
    exact hc j y hy
  · have hjl : j = l.length := by
      have := (List.getElem?_eq_some_iff.1 hy).1
      simp at this
      omega
    subst hjl
    simp at hy
    subst hy
    simp
theorem OwnBytes.bytes {w : World} {B : Nat} {t : TypeId} {n : Nat} {l : List UInt8} (h : OwnBytes w B t n l) (hm : l.length ≤ 9223372036854775807) (c : Nat) : BytesAt w (.slice (some ⟨B, 0, none⟩) l.length c) l := by
  obtain ⟨f, hf, hl, h⟩ := h
  refine ⟨_, c, rfl, hm, .inr ⟨B, 0, rfl, fun j x hx => ?_⟩⟩
  have hj := (List.getElem?_eq_some_iff.1 hx).1
  rw [Nat.zero_add, ← h j x hx]
  exact hf.cell (by omega)

theorem take_snoc {α : Type} (l : List α) (k : Nat) (x : α) (h : l[k]? = some x) : l.take (k + 1) = l.take k ++ [x] := by
  obtain ⟨hk, rfl⟩ := List.getElem?_eq_some_iff.1 h
  rw [List.take_succ_eq_append_getElem hk]
theorem take_len {α : Type} (l : List α) (k : Nat) (h : k ≤ l.length) : (l.take k).length = k := by simp; omega
theorem get_some {α : Type} (l : List α) (k : Nat) (h : k < l.length) : ∃ x, l[k]? = some x := ⟨_, List.getElem?_eq_getElem h⟩
end Go.Proofs.Qxb6602657a
