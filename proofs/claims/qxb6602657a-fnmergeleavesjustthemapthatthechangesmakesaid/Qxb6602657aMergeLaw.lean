/-
  THE PLAIN LAW of 'FnMergeLeavesJustTheMapThatTheChangesMake': no Go in sight.
-/
import Derived.Test.Qxb6602657aOrder
namespace Go.Proofs.Qxb6602657a

/-- what a lookup in the map that the changes leave answers -/
def Look (E : List (List UInt8 × List UInt8)) (C : List (List UInt8 × List UInt8 × Bool)) (key : List UInt8) (ok : Bool) (v : List UInt8) : Prop :=
  (∃ c ∈ C, c.1 = key ∧ c.2.2 = true ∧ ok = false) ∨ (∃ c ∈ C, c.1 = key ∧ c.2.2 = false ∧ ok = true ∧ v = c.2.1) ∨ (key ∉ C.map (·.1) ∧ ∃ e ∈ E, e.1 = key ∧ ok = true ∧ v = e.2) ∨ (key ∉ C.map (·.1) ∧ key ∉ E.map (·.1) ∧ ok = false)

/-- an entry stays -/
def keeps (C : List (List UInt8 × List UInt8 × Bool)) (e : List UInt8 × List UInt8) : Bool := !(C.any fun c => decide (c.1 = e.1) && c.2.2)
/-- a change adds a row -/
def adds (E : List (List UInt8 × List UInt8)) (c : List UInt8 × List UInt8 × Bool) : Bool := !c.2.2 && !(E.any fun e => decide (e.1 = c.1))

theorem lt_ne {a b : List UInt8} (h : Lib.compareBytes a b < 0) : a ≠ b := fun e => by rw [e, cmp_self] at h; omega
theorem asc_uniq {α : Type} {f : α → List UInt8} {l : List α} (h : Asc (l.map f)) {x y : α} (hx : x ∈ l) (hy : y ∈ l) (hxy : f x = f y) : x = y := by
  obtain ⟨i, hi, rfl⟩ := List.getElem_of_mem hx
  obtain ⟨j, hj, rfl⟩ := List.getElem_of_mem hy
  have g : ∀ k (hk : k < l.length), (l.map f)[k]? = some (f l[k]) := fun k hk => by simp [hk]
  rcases Nat.lt_trichotomy i j with e | e | e
  · exact absurd hxy (lt_ne (h.lt (g i hi) (g j hj) e))
  · subst e; rfl
  · exact absurd hxy.symm (lt_ne (h.lt (g j hj) (g i hi) e))
theorem asc_head {α : Type} {f : α → List UInt8} {a : α} {l : List α} (h : Asc ((a :: l).map f)) : Asc (l.map f) ∧ ∀ x ∈ l, Lib.compareBytes (f a) (f x) < 0 := by
  have h' : Asc (f a :: l.map f) := h
  obtain ⟨h1, h2⟩ := List.pairwise_cons.1 h'
  exact ⟨h2, fun x hx => h1 _ (List.mem_map.2 ⟨x, hx, rfl⟩)⟩

theorem mem_ins {d : List UInt8 × List UInt8 × Bool} {x : List UInt8 × List UInt8} (h : x ∈ ins d) : d.2.2 = false ∧ x = (d.1, d.2.1) := by
  unfold ins at h
  cases hd : d.2.2
  · simp [hd] at h; exact ⟨rfl, h⟩
  · simp [hd] at h
theorem ins_length (d : List UInt8 × List UInt8 × Bool) : (ins d).length = if d.2.2 then 0 else 1 := by
  unfold ins
  cases hd : d.2.2 <;> simp

/-- the induction along merge -/
theorem merge_ind {p : List (List UInt8 × List UInt8) → List (List UInt8 × List UInt8 × Bool) → Prop} (h0 : p [] [])
    (h1 : ∀ e E, p E [] → p (e :: E) []) (h2 : ∀ d C, p [] C → p [] (d :: C))
    (h3 : ∀ e E d C, Lib.compareBytes e.1 d.1 < 0 → p E (d :: C) → p (e :: E) (d :: C))
    (h4 : ∀ e E d C, e.1 = d.1 → p E C → p (e :: E) (d :: C))
    (h5 : ∀ e E d C, Lib.compareBytes d.1 e.1 < 0 → p (e :: E) C → p (e :: E) (d :: C)) : ∀ n E C, E.length + C.length ≤ n → p E C := by
  intro n
  induction n with
  | zero =>
    intro E C h
    have hE : E = [] := List.length_eq_zero_iff.1 (by omega)
    have hC : C = [] := List.length_eq_zero_iff.1 (by omega)
    subst hE hC
    exact h0
  | succ n ih =>
    intro E C h
    cases E with
    | nil =>
      cases C with
      | nil => exact h0
      | cons d C => exact h2 d C (ih _ _ (by simp at h ⊢; omega))
    | cons e E =>
      cases C with
      | nil => exact h1 e E (ih _ _ (by simp at h ⊢; omega))
      | cons d C =>
        simp at h
        rcases (show Lib.compareBytes e.1 d.1 < 0 ∨ Lib.compareBytes e.1 d.1 = 0 ∨ 0 < Lib.compareBytes e.1 d.1 by omega) with hc | hc | hc
        · exact h3 e E d C hc (ih _ _ (by simp; omega))
        · exact h4 e E d C (cmp_zero _ _ hc) (ih _ _ (by omega))
        · exact h5 e E d C (by rw [cmp_swap]; omega) (ih _ _ (by simp; omega))

/-- where a row of the merged list comes from -/
theorem merge_mem (E : List (List UInt8 × List UInt8)) (C : List (List UInt8 × List UInt8 × Bool)) : Asc (E.map (·.1)) → Asc (C.map (·.1)) → ∀ x ∈ mergeL E C,
    (∃ c ∈ C, c.1 = x.1 ∧ c.2.2 = false ∧ c.2.1 = x.2) ∨ (x ∈ E ∧ x.1 ∉ C.map (·.1)) := by
  refine merge_ind (p := fun E C => Asc (E.map (·.1)) → Asc (C.map (·.1)) → ∀ x ∈ mergeL E C, (∃ c ∈ C, c.1 = x.1 ∧ c.2.2 = false ∧ c.2.1 = x.2) ∨ (x ∈ E ∧ x.1 ∉ C.map (·.1))) ?_ ?_ ?_ ?_ ?_ ?_ _ E C (Nat.le_refl _)
  · intro _ _ x hx
    simp [mergeL_nil] at hx
  · intro e E ih hE hC x hx
    rw [mergeL_left] at hx
    rcases List.mem_cons.1 hx with rfl | hx
    · exact .inr ⟨by simp, by simp⟩
    · rcases ih (asc_head hE).1 hC x hx with ⟨c, hc, _⟩ | ⟨h1, h2⟩
      · cases hc
      · exact .inr ⟨List.mem_cons_of_mem _ h1, h2⟩
  · intro d C ih hE hC x hx
    rw [mergeL_right] at hx
    rcases List.mem_append.1 hx with hx | hx
    · obtain ⟨h1, rfl⟩ := mem_ins hx
      exact .inl ⟨d, by simp, rfl, h1, rfl⟩
    · rcases ih hE (asc_head hC).1 x hx with ⟨c, hc, h⟩ | ⟨h1, _⟩
      · exact .inl ⟨c, List.mem_cons_of_mem _ hc, h⟩
      · cases h1
  · intro e E d C hlt ih hE hC x hx
    rw [mergeL_lt hlt] at hx
    rcases List.mem_cons.1 hx with rfl | hx
    · refine .inr ⟨by simp, fun hm => ?_⟩
      obtain ⟨c, hc, he⟩ := List.mem_map.1 hm
      rcases List.mem_cons.1 hc with rfl | hc
      · exact lt_ne hlt he.symm
      · exact lt_ne (cmp_trans _ _ _ hlt ((asc_head hC).2 c hc)) he.symm
    · rcases ih (asc_head hE).1 hC x hx with h | ⟨h1, h2⟩
      · exact .inl h
      · exact .inr ⟨List.mem_cons_of_mem _ h1, h2⟩
  · intro e E d C heq ih hE hC x hx
    rw [mergeL_eq ((cmp_iff _ _).2 heq)] at hx
    rcases List.mem_append.1 hx with hx | hx
    · obtain ⟨h1, rfl⟩ := mem_ins hx
      exact .inl ⟨d, by simp, rfl, h1, rfl⟩
    · rcases ih (asc_head hE).1 (asc_head hC).1 x hx with ⟨c, hc, h⟩ | ⟨h1, h2⟩
      · exact .inl ⟨c, List.mem_cons_of_mem _ hc, h⟩
      · refine .inr ⟨List.mem_cons_of_mem _ h1, fun hm => ?_⟩
        rcases List.mem_cons.1 hm with h | h
        · have := (asc_head hE).2 x h1
          rw [heq] at this
          exact lt_ne this h.symm
        · exact h2 h
  · intro e E d C hgt ih hE hC x hx
    rw [mergeL_gt (by rw [cmp_swap]; omega)] at hx
    rcases List.mem_append.1 hx with hx | hx
    · obtain ⟨h1, rfl⟩ := mem_ins hx
      exact .inl ⟨d, by simp, rfl, h1, rfl⟩
    · rcases ih hE (asc_head hC).1 x hx with ⟨c, hc, h⟩ | ⟨h1, h2⟩
      · exact .inl ⟨c, List.mem_cons_of_mem _ hc, h⟩
      · refine .inr ⟨h1, fun hm => ?_⟩
        rcases List.mem_cons.1 hm with h | h
        · rcases List.mem_cons.1 h1 with rfl | h1
          · exact lt_ne hgt h.symm
          · exact lt_ne (cmp_trans _ _ _ hgt ((asc_head hE).2 x h1)) h.symm
        · exact h2 h

theorem merge_key {E : List (List UInt8 × List UInt8)} {C : List (List UInt8 × List UInt8 × Bool)} (hE : Asc (E.map (·.1))) (hC : Asc (C.map (·.1))) {x : List UInt8 × List UInt8} (h : x ∈ mergeL E C) : (∃ c ∈ C, c.1 = x.1) ∨ x ∈ E := by
  rcases merge_mem E C hE hC x h with ⟨c, hc, h, _⟩ | ⟨h, _⟩
  · exact .inl ⟨c, hc, h⟩
  · exact .inr h

/-- (P1) the merged keys ascend -/
theorem merge_asc (E : List (List UInt8 × List UInt8)) (C : List (List UInt8 × List UInt8 × Bool)) : Asc (E.map (·.1)) → Asc (C.map (·.1)) → Asc ((mergeL E C).map (·.1)) := by
  have cons : ∀ (x : List UInt8 × List UInt8) (l : List (List UInt8 × List UInt8)), Asc (l.map (·.1)) → (∀ y ∈ l, Lib.compareBytes x.1 y.1 < 0) → Asc ((x :: l).map (·.1)) := by
    intro x l h1 h2
    refine List.pairwise_cons.2 ⟨fun k hk => ?_, h1⟩
    obtain ⟨y, hy, rfl⟩ := List.mem_map.1 hk
    exact h2 y hy
  have insl : ∀ (d : List UInt8 × List UInt8 × Bool) (l : List (List UInt8 × List UInt8)), Asc (l.map (·.1)) → (∀ y ∈ l, Lib.compareBytes d.1 y.1 < 0) → Asc ((ins d ++ l).map (·.1)) := by
    intro d l h1 h2
    unfold ins
    cases d.2.2
    · exact cons _ l h1 h2
    · exact h1
  refine merge_ind (p := fun E C => Asc (E.map (·.1)) → Asc (C.map (·.1)) → Asc ((mergeL E C).map (·.1))) ?_ ?_ ?_ ?_ ?_ ?_ _ E C (Nat.le_refl _)
  · intro _ _
    rw [mergeL_nil]
    exact List.Pairwise.nil
  · intro e E ih hE hC
    rw [mergeL_left]
    refine cons _ _ (ih (asc_head hE).1 hC) fun y hy => ?_
    rcases merge_key (asc_head hE).1 hC hy with ⟨c, hc, _⟩ | h
    · cases hc
    · exact (asc_head hE).2 y h
  · intro d C ih hE hC
    rw [mergeL_right]
    refine insl _ _ (ih hE (asc_head hC).1) fun y hy => ?_
    rcases merge_key hE (asc_head hC).1 hy with ⟨c, hc, h⟩ | h
    · rw [← h]; exact (asc_head hC).2 c hc
    · cases h
  · intro e E d C hlt ih hE hC
    rw [mergeL_lt hlt]
    refine cons _ _ (ih (asc_head hE).1 hC) fun y hy => ?_
    rcases merge_key (asc_head hE).1 hC hy with ⟨c, hc, h⟩ | h
    · rw [← h]
      rcases List.mem_cons.1 hc with rfl | hc
      · exact hlt
      · exact cmp_trans _ _ _ hlt ((asc_head hC).2 c hc)
    · exact (asc_head hE).2 y h
  · intro e E d C heq ih hE hC
    rw [mergeL_eq ((cmp_iff _ _).2 heq)]
    refine insl _ _ (ih (asc_head hE).1 (asc_head hC).1) fun y hy => ?_
    rcases merge_key (asc_head hE).1 (asc_head hC).1 hy with ⟨c, hc, h⟩ | h
    · rw [← h]; exact (asc_head hC).2 c hc
    · rw [← heq]; exact (asc_head hE).2 y h
  · intro e E d C hgt ih hE hC
    rw [mergeL_gt (by rw [cmp_swap]; omega)]
    refine insl _ _ (ih hE (asc_head hC).1) fun y hy => ?_
    rcases merge_key hE (asc_head hC).1 hy with ⟨c, hc, h⟩ | h
    · rw [← h]; exact (asc_head hC).2 c hc
    · rcases List.mem_cons.1 h with rfl | h
      · exact hgt
      · exact cmp_trans _ _ _ hgt ((asc_head hE).2 y h)

/-- (P2) every merged row is the one that the lookup gives -/
theorem merge_look {E : List (List UInt8 × List UInt8)} {C : List (List UInt8 × List UInt8 × Bool)} (hE : Asc (E.map (·.1))) (hC : Asc (C.map (·.1))) {x : List UInt8 × List UInt8} (hx : x ∈ mergeL E C) {ok : Bool} {v : List UInt8} (hl : Look E C x.1 ok v) : ok = true ∧ v = x.2 := by
  rcases merge_mem E C hE hC x hx with ⟨c, hc, h1, h2, h3⟩ | ⟨h1, h2⟩
  · rcases hl with ⟨c', hc', k1, k2, _⟩ | ⟨c', hc', k1, k2, k3, k4⟩ | ⟨hno, _⟩ | ⟨hno, _⟩
    · have := asc_uniq hC hc hc' (h1.trans k1.symm)
      rw [this, k2] at h2
      cases h2
    · have := asc_uniq hC hc hc' (h1.trans k1.symm)
      subst this
      exact ⟨k3, k4.trans h3⟩
    · exact absurd (List.mem_map.2 ⟨c, hc, h1⟩) hno
    · exact absurd (List.mem_map.2 ⟨c, hc, h1⟩) hno
  · rcases hl with ⟨c', hc', k1, _⟩ | ⟨c', hc', k1, _⟩ | ⟨_, e, he, k1, k2, k3⟩ | ⟨_, hno, _⟩
    · exact absurd (List.mem_map.2 ⟨c', hc', k1⟩) h2
    · exact absurd (List.mem_map.2 ⟨c', hc', k1⟩) h2
    · have := asc_uniq hE he h1 k1
      subst this
      exact ⟨k2, k3⟩
    · exact absurd (List.mem_map.2 ⟨x, h1, rfl⟩) hno

/-- what the lookup says of an entry's own key -/
theorem look_entry {E : List (List UInt8 × List UInt8)} {C : List (List UInt8 × List UInt8 × Bool)} (hC : Asc (C.map (·.1))) {e : List UInt8 × List UInt8} (he : e ∈ E) {ok : Bool} {v : List UInt8} (hl : Look E C e.1 ok v) : ok = keeps C e := by
  unfold keeps
  rcases hl with ⟨c, hc, k1, k2, k3⟩ | ⟨c, hc, k1, k2, k3, _⟩ | ⟨hno, e', he', k1, k2, _⟩ | ⟨_, hno, _⟩
  · rw [k3]
    have : (C.any fun c => decide (c.1 = e.1) && c.2.2) = true := List.any_eq_true.2 ⟨c, hc, by simp [k1, k2]⟩
    rw [this]
    rfl
  · rw [k3]
    have : (C.any fun c => decide (c.1 = e.1) && c.2.2) = false := by
      rw [List.any_eq_false]
      intro c' hc' h
      simp at h
      have := asc_uniq hC hc hc' (k1.trans h.1.symm)
      subst this
      rw [k2] at h
      simp at h
    rw [this]
    rfl
  · rw [k2]
    have : (C.any fun c => decide (c.1 = e.1) && c.2.2) = false := by
      rw [List.any_eq_false]
      intro c' hc' h
      simp at h
      exact hno (List.mem_map.2 ⟨c', hc', h.1⟩)
    rw [this]
    rfl
  · exact absurd (List.mem_map.2 ⟨e, he, rfl⟩) hno

theorem keeps_cons_ne {d : List UInt8 × List UInt8 × Bool} {C : List (List UInt8 × List UInt8 × Bool)} {e : List UInt8 × List UInt8} (h : d.1 ≠ e.1) : keeps (d :: C) e = keeps C e := by
  simp [keeps, h]
theorem adds_cons_ne {e : List UInt8 × List UInt8} {E : List (List UInt8 × List UInt8)} {d : List UInt8 × List UInt8 × Bool} (h : e.1 ≠ d.1) : adds (e :: E) d = adds E d := by
  simp [adds, h]
theorem keeps_none {C : List (List UInt8 × List UInt8 × Bool)} {e : List UInt8 × List UInt8} (h : ∀ c ∈ C, c.1 ≠ e.1) : keeps C e = true := by
  unfold keeps
  rw [show (C.any fun c => decide (c.1 = e.1) && c.2.2) = false from by
    rw [List.any_eq_false]
    intro c hc hh
    simp at hh
    exact h c hc hh.1]
  rfl
theorem adds_none {E : List (List UInt8 × List UInt8)} {d : List UInt8 × List UInt8 × Bool} (h : ∀ e ∈ E, e.1 ≠ d.1) : adds E d = !d.2.2 := by
  unfold adds
  rw [show (E.any fun e => decide (e.1 = d.1)) = false from by
    rw [List.any_eq_false]
    intro e he hh
    simp at hh
    exact h e he hh]
  simp
theorem filter_congr' {α : Type} {p q : α → Bool} {l : List α} (h : ∀ x ∈ l, p x = q x) : (l.filter p).length = (l.filter q).length := by
  rw [List.filter_congr h]
theorem count_cons {α : Type} (p : α → Bool) (a : α) (l : List α) : ((a :: l).filter p).length = (if p a then 1 else 0) + (l.filter p).length := by
  by_cases h : p a = true
  · simp [h]; omega
  · simp [h]

/-- (P3) as many rows as the map has keys -/
theorem merge_count (E : List (List UInt8 × List UInt8)) (C : List (List UInt8 × List UInt8 × Bool)) : Asc (E.map (·.1)) → Asc (C.map (·.1)) →
    (mergeL E C).length = (E.filter (keeps C)).length + (C.filter (adds E)).length := by
  refine merge_ind (p := fun E C => Asc (E.map (·.1)) → Asc (C.map (·.1)) → (mergeL E C).length = (E.filter (keeps C)).length + (C.filter (adds E)).length) ?_ ?_ ?_ ?_ ?_ ?_ _ E C (Nat.le_refl _)
  · intro _ _; rfl
  · intro e E ih hE hC
    rw [mergeL_left, List.length_cons, ih (asc_head hE).1 hC, count_cons, if_pos (keeps_none (fun c hc => by cases hc))]
    simp
    omega
  · intro d C ih hE hC
    rw [mergeL_right, List.length_append, ih hE (asc_head hC).1, count_cons, ins_length, adds_none (fun e he => by cases he)]
    cases d.2.2 <;> simp
  · intro e E d C hlt ih hE hC
    have hne : ∀ c ∈ d :: C, c.1 ≠ e.1 := fun c hc he => by
      rcases List.mem_cons.1 hc with rfl | hc
      · exact lt_ne hlt he.symm
      · exact lt_ne (cmp_trans _ _ _ hlt ((asc_head hC).2 c hc)) he.symm
    rw [mergeL_lt hlt, List.length_cons, ih (asc_head hE).1 hC, count_cons (keeps (d :: C)), if_pos (keeps_none hne), filter_congr' (p := adds (e :: E)) (q := adds E) (fun c hc => adds_cons_ne (fun h => hne c hc h.symm))]
    omega
  · intro e E d C heq ih hE hC
    have hneC : ∀ c ∈ C, c.1 ≠ e.1 := fun c hc he => lt_ne ((asc_head hC).2 c hc) (heq.symm.trans he.symm)
    have hneE : ∀ x ∈ E, d.1 ≠ x.1 := fun x hx he => lt_ne ((asc_head hE).2 x hx) (heq.trans he)
    have hk : keeps (d :: C) e = !d.2.2 := by
      have h1 := keeps_none hneC
      unfold keeps at h1 ⊢
      rw [List.any_cons]
      simp only [Bool.not_eq_true'] at h1
      rw [h1]
      simp [heq]
    have hA : adds (e :: E) d = false := by simp [adds, heq]
    rw [mergeL_eq ((cmp_iff _ _).2 heq), List.length_append, ih (asc_head hE).1 (asc_head hC).1, count_cons (keeps (d :: C)), count_cons (adds (e :: E)), hk, hA, ins_length,
      filter_congr' (p := keeps (d :: C)) (q := keeps C) (fun x hx => keeps_cons_ne (hneE x hx)), filter_congr' (p := adds (e :: E)) (q := adds E) (fun c hc => adds_cons_ne (fun h => hneC c hc h.symm))]
    cases d.2.2 <;> simp <;> omega
  · intro e E d C hgt ih hE hC
    have hne : ∀ x ∈ e :: E, d.1 ≠ x.1 := fun x hx he => by
      rcases List.mem_cons.1 hx with rfl | hx
      · exact lt_ne hgt he
      · exact lt_ne (cmp_trans _ _ _ hgt ((asc_head hE).2 x hx)) he
    rw [mergeL_gt (by rw [cmp_swap]; omega), List.length_append, ih hE (asc_head hC).1, count_cons (adds (e :: E)), adds_none (fun x hx h => hne x hx h.symm), ins_length,
      filter_congr' (p := keeps (d :: C)) (q := keeps C) (fun x hx => keeps_cons_ne (hne x hx))]
    cases d.2.2 <;> simp <;> omega
end Go.Proofs.Qxb6602657a
