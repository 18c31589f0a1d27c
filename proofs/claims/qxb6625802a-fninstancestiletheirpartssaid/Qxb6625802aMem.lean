/-
  WORDS FOR THE MEMORY THAT THE LAW MAKES: rows that are being filled; the struct 'extra' (its fields 2, 3 and 12).
-/
import Derived.Test.Qxb6625802aMono
namespace Go.Proofs.Qxb6625802a
open Go.RowKit

/-- Pair i lies in the two cells at o + i * 2. -/
def Pairs (w : World) (b o : Nat) (xs ys : List Int) (n : Nat) : Prop :=
  ∀ i, i < n → w.cell? ⟨b, o + i * 2, none⟩ = some (.int .i32 (xs.getD i 0)) ∧ w.cell? ⟨b, o + i * 2 + 1, none⟩ = some (.int .i32 (ys.getD i 0))
theorem Pairs.later {w w' : World} {b o n : Nat} {xs ys : List Int} (h : Pairs w b o xs ys n) (hb : Below w.heap.size w w') : Pairs w' b o xs ys n := fun i hi => ⟨cell_later hb (h i hi).1, cell_later hb (h i hi).2⟩

/-- A row of the call's own, of n one-cell elements, the first j of them set. -/
def Part (w : World) (B : Nat) (e : TypeId) (g n : Nat) (zs : List Int) (j : Nat) : Prop :=
  ∃ xs, w.ownsRow B e 1 (.slice (some ⟨g, 0, none⟩) n n) n xs ∧ ∀ t, t < j → xs[t]? = some (.int .i32 (zs.getD t 0))
theorem Part.step {w : World} {B : Nat} {e : TypeId} {g n : Nat} {zs : List Int} {j : Nat} (h : Part w B e g n zs j) (hj : j < n) : Part (w.setCell ⟨g, j, none⟩ (.int .i32 (zs.getD j 0))) B e g n zs (j + 1) := by
  obtain ⟨xs, h1, h2⟩ := h
  have hl := h1.1
  refine ⟨_, (h1.stored j _).1, fun t ht => ?_⟩
  by_cases e : t = j
  · subst e
    rw [List.getElem?_set_self (by omega)]
  · rw [List.getElem?_set_ne (by omega)]
    exact h2 t (by omega)
theorem Part.at {w : World} {B : Nat} {e : TypeId} {g n : Nat} {zs : List Int} {j : Nat} (h : Part w B e g n zs j) (t : Nat) (ht : t < n) : (∃ u, w.cell? ⟨g, t, none⟩ = some u) ∧ w.frozen? ⟨g, t, none⟩ = false := by
  obtain ⟨xs, h1, _⟩ := h
  have hl := h1.1
  exact ⟨⟨_, (h1.cellAt t (by omega)).trans (List.getElem?_eq_getElem (by omega))⟩, h1.frozenAt t⟩
theorem Part.ints {w : World} {B : Nat} {e : TypeId} {g n : Nat} {zs : List Int} (h : Part w B e g n zs n) : Ints w g 0 zs n := by
  obtain ⟨xs, h1, h2⟩ := h
  intro i hi
  rw [Nat.zero_add, h1.cellAt i (by omega), h2 i hi]
theorem Part.lt {w : World} {B : Nat} {e : TypeId} {g n : Nat} {zs : List Int} {j : Nat} (h : Part w B e g n zs j) : B ≤ g ∧ g < w.heap.size := by
  obtain ⟨xs, h1, _⟩ := h
  exact h1.lt g rfl

/-- A row of the call's own, of n pairs, the first j of them set. -/
def Part2 (w : World) (B : Nat) (e : TypeId) (g n : Nat) (zs ys : List Int) (j : Nat) : Prop :=
  ∃ xs, w.ownsRow B e 2 (.slice (some ⟨g, 0, none⟩) n n) n xs ∧ ∀ t, t < j → xs[t * 2]? = some (.int .i32 (zs.getD t 0)) ∧ xs[t * 2 + 1]? = some (.int .i32 (ys.getD t 0))
theorem Part2.step {w : World} {B : Nat} {e : TypeId} {g n : Nat} {zs ys : List Int} {j : Nat} (h : Part2 w B e g n zs ys j) (hj : j < n) : Part2 ((w.setCell ⟨g, j * 2, none⟩ (.int .i32 (zs.getD j 0))).setCell ⟨g, j * 2 + 1, none⟩ (.int .i32 (ys.getD j 0))) B e g n zs ys (j + 1) := by
  obtain ⟨xs, h1, h2⟩ := h
  have hl := h1.1
  have s1 := (h1.stored (j * 2) (.int .i32 (zs.getD j 0))).1
  refine ⟨_, (s1.stored (j * 2 + 1) _).1, fun t ht => ?_⟩
  by_cases e : t = j
  · subst e
    rw [List.getElem?_set_ne (by omega), List.getElem?_set_self (by omega), List.getElem?_set_self (by simp; omega)]
    exact ⟨rfl, rfl⟩
  · rw [List.getElem?_set_ne (by omega), List.getElem?_set_ne (by omega), List.getElem?_set_ne (by omega), List.getElem?_set_ne (by omega)]
    exact h2 t (by omega)
theorem Part2.at {w : World} {B : Nat} {e : TypeId} {g n : Nat} {zs ys : List Int} {j : Nat} (h : Part2 w B e g n zs ys j) (t : Nat) (ht : t < n) :
    (∃ u, w.cell? ⟨g, t * 2, none⟩ = some u) ∧ (∃ u, w.cell? ⟨g, t * 2 + 1, none⟩ = some u) ∧ w.frozen? ⟨g, t * 2, none⟩ = false ∧ w.frozen? ⟨g, t * 2 + 1, none⟩ = false := by
  obtain ⟨xs, h1, _⟩ := h
  have hl := h1.1
  exact ⟨⟨_, (h1.cellAt (t * 2) (by omega)).trans (List.getElem?_eq_getElem (by omega))⟩, ⟨_, (h1.cellAt (t * 2 + 1) (by omega)).trans (List.getElem?_eq_getElem (by omega))⟩, h1.frozenAt _, h1.frozenAt _⟩
theorem Part2.pairs {w : World} {B : Nat} {e : TypeId} {g n : Nat} {zs ys : List Int} (h : Part2 w B e g n zs ys n) : Pairs w g 0 zs ys n := by
  obtain ⟨xs, h1, h2⟩ := h
  intro i hi
  rw [Nat.zero_add, h1.cellAt _ (by omega), h1.cellAt _ (by omega)]
  exact h2 i hi
theorem Part2.lt {w : World} {B : Nat} {e : TypeId} {g n : Nat} {zs ys : List Int} {j : Nat} (h : Part2 w B e g n zs ys j) : B ≤ g ∧ g < w.heap.size := by
  obtain ⟨xs, h1, _⟩ := h
  exact h1.lt g rfl

/-- The struct's three fields. -/
def XB (w : World) (xb : Nat) (v2 v3 v12 : Value) : Prop :=
  w.cell? ⟨xb, 2, none⟩ = some v2 ∧ w.cell? ⟨xb, 3, none⟩ = some v3 ∧ w.cell? ⟨xb, 12, none⟩ = some v12 ∧ ∀ i, w.frozen? ⟨xb, i, none⟩ = false
theorem XB.block {w w' : World} {xb : Nat} {v2 v3 v12 : Value} (h : XB w xb v2 v3 v12) (hb : w'.heap[xb]? = w.heap[xb]?) : XB w' xb v2 v3 v12 := by
  obtain ⟨h1, h2, h3, h4⟩ := h
  exact ⟨(World.cell?_of_block (a := ⟨xb, 2, none⟩) hb).trans h1, (World.cell?_of_block (a := ⟨xb, 3, none⟩) hb).trans h2, (World.cell?_of_block (a := ⟨xb, 12, none⟩) hb).trans h3, fun i => (World.frozen?_of_block (a := ⟨xb, i, none⟩) hb).trans (h4 i)⟩
theorem XB.far {w : World} {xb : Nat} {v2 v3 v12 : Value} (h : XB w xb v2 v3 v12) (g j : Nat) (u : Value) (hne : xb ≠ g) : XB (w.setCell ⟨g, j, none⟩ u) xb v2 v3 v12 := h.block (Below.heap_setCell w ⟨g, j, none⟩ u xb hne)
theorem XB.drew {w : World} {xb : Nat} {v2 v3 v12 : Value} (h : XB w xb v2 v3 v12) : XB w.drew xb v2 v3 v12 := h
theorem XB.lt {w : World} {xb : Nat} {v2 v3 v12 : Value} (h : XB w xb v2 v3 v12) : xb < w.heap.size := World.block_lt_of_cell? w ⟨xb, 2, none⟩ h.1
theorem XB.grown {w w' : World} {xb : Nat} {v2 v3 v12 : Value} (h : XB w xb v2 v3 v12) (hg : w.grownBy w' none) : XB w' xb v2 v3 v12 := h.block (hg.block xb h.lt (by simp))
theorem XB.later {w w' : World} {xb : Nat} {v2 v3 v12 : Value} (h : XB w xb v2 v3 v12) (hb : Below w.heap.size w w') : XB w' xb v2 v3 v12 := h.block (hb.block xb h.lt)
theorem XB.put2 {w : World} {xb : Nat} {v2 v3 v12 : Value} (h : XB w xb v2 v3 v12) (u : Value) : XB (w.setCell ⟨xb, 2, none⟩ u) xb u v3 v12 := by
  obtain ⟨h1, h2, h3, h4⟩ := h
  exact ⟨World.cell?_setCell_same' _ _ _ (by rw [h1]; rfl), by rw [World.cell?_setCell_other _ _ _ _ (by simp)]; exact h2, by rw [World.cell?_setCell_other _ _ _ _ (by simp)]; exact h3, fun i => by rw [World.frozen?_setCell]; exact h4 i⟩
theorem XB.put3 {w : World} {xb : Nat} {v2 v3 v12 : Value} (h : XB w xb v2 v3 v12) (u : Value) : XB (w.setCell ⟨xb, 3, none⟩ u) xb v2 u v12 := by
  obtain ⟨h1, h2, h3, h4⟩ := h
  exact ⟨by rw [World.cell?_setCell_other _ _ _ _ (by simp)]; exact h1, World.cell?_setCell_same' _ _ _ (by rw [h2]; rfl), by rw [World.cell?_setCell_other _ _ _ _ (by simp)]; exact h3, fun i => by rw [World.frozen?_setCell]; exact h4 i⟩
theorem XB.put12 {w : World} {xb : Nat} {v2 v3 v12 : Value} (h : XB w xb v2 v3 v12) (u : Value) : XB (w.setCell ⟨xb, 12, none⟩ u) xb v2 v3 u := by
  obtain ⟨h1, h2, h3, h4⟩ := h
  exact ⟨by rw [World.cell?_setCell_other _ _ _ _ (by simp)]; exact h1, by rw [World.cell?_setCell_other _ _ _ _ (by simp)]; exact h2, World.cell?_setCell_same' _ _ _ (by rw [h3]; rfl), fun i => by rw [World.frozen?_setCell]; exact h4 i⟩

theorem grown_of_below {w w' : World} (h : Below w.heap.size w w') : w.grownBy w' none := ⟨h.os, h.tape, h.output, h.size, fun k hk _ => h.block k hk⟩
/-- An owned row stays as it was behind a store into another block. -/
theorem owns_far {w : World} {B : Nat} {e : TypeId} {s n cap g : Nat} {xs : List Value} (h : w.ownsRow B e s (.slice (some ⟨g, 0, none⟩) n cap) n xs) (k j : Nat) (u : Value) (hne : g ≠ k) : (w.setCell ⟨k, j, none⟩ u).ownsRow B e s (.slice (some ⟨g, 0, none⟩) n cap) n xs := by
  refine h.kept (row := some k) ⟨rfl, rfl, rfl, by simp, fun i _ hi => Below.heap_setCell w ⟨k, j, none⟩ u i (fun e => hi (by simp [e]))⟩ (.inr (by simp [Value.ownBlock]; exact hne))
theorem Part.far {w : World} {B : Nat} {e : TypeId} {g n : Nat} {zs : List Int} {j : Nat} (h : Part w B e g n zs j) (k t : Nat) (u : Value) (hne : g ≠ k) : Part (w.setCell ⟨k, t, none⟩ u) B e g n zs j := by
  obtain ⟨xs, h1, h2⟩ := h
  exact ⟨xs, owns_far h1 k t u hne, h2⟩
theorem Ints.far {w : World} {b o n : Nat} {zs : List Int} (h : Ints w b o zs n) (g j : Nat) (u : Value) (hne : b ≠ g) : Ints (w.setCell ⟨g, j, none⟩ u) b o zs n := fun i hi =>
  (World.cell?_of_block (a := ⟨b, o + i, none⟩) (Below.heap_setCell w ⟨g, j, none⟩ u b hne)).trans (h i hi)
theorem Pairs.far {w : World} {b o n : Nat} {xs ys : List Int} (h : Pairs w b o xs ys n) (g j : Nat) (u : Value) (hne : b ≠ g) : Pairs (w.setCell ⟨g, j, none⟩ u) b o xs ys n := fun i hi =>
  ⟨(World.cell?_of_block (a := ⟨b, o + i * 2, none⟩) (Below.heap_setCell w ⟨g, j, none⟩ u b hne)).trans (h i hi).1, (World.cell?_of_block (a := ⟨b, o + i * 2 + 1, none⟩) (Below.heap_setCell w ⟨g, j, none⟩ u b hne)).trans (h i hi).2⟩
theorem Below.of_grown {w w' : World} (h : w.grownBy w' none) : Below w.heap.size w w' := (Below.refl _ _).grown h (Nat.le_refl _) (fun k hk => by cases hk)
end Go.Proofs.Qxb6625802a
